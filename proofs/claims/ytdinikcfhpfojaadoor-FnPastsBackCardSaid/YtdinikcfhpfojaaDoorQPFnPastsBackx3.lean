/- Printed by a program of this seat (xprint) out of the translation: Go functions as plain functions, and the walks that show them; no condition. -/
import Derived.Test.YtdinikcfhpfojaaDoorQPFnPastsBackx0
import Derived.Test.YtdinikcfhpfojaaDoorQHHsI
import Derived.Test.YtdinikcfhpfojaaDoorQPFnPastsBackx1
import Derived.Test.YtdinikcfhpfojaaDoorQPFnPastsBackx2
namespace Go.Proofs.YtdinikcfhpfojaaDoor.PFnPastsBack
open Go.RowKit Go.Proofs.YtdinikcfhpfojaaDoor.H Go.Proofs.YtdinikcfhpfojaaDoor.R Go.Proofs.YtdinikcfhpfojaaDoorW.PrintWords Go.Proofs.YtdinikcfhpfojaaDoorW.PrintLast Go.Proofs.YtdinikcfhpfojaaDoorW.PrintMore
attribute [local go_sem] max2_int min2_int max_two min_two max_three min_three max_four min_four   -- for this text's walks alone
set_option linter.unusedVariables false
set_option linter.unusedSimpArgs false
attribute [local go_sem high] eqA56
/-! ### laws_FnPastsBack: function 12 -/
mutual
def laws_FnPastsBack.j0 : Nat → List ByteArray → Bool → Option (Bool)
  | 0, _, _ => none
  | k + 1, x0, x20 => if x20 = true then (some true) else (laws_FnPastsBack.l0 k x0 ([] : List (S50)) (x0.length : Int) 0)
def laws_FnPastsBack.l0 : Nat → List ByteArray → List (S50) → Int → Int → Option (Bool)
  | 0, _, _, _, _ => none
  | k + 1, x0, x3, x22, x23 => if x23 < x22 then (laws_FnPastsBack.l1 k x0 x3 x23 x22 x23 x23 0) else (laws_FnPastsBack.l2 k x0 x3 (x0.length : Int) (x0.length : Int) 0)
def laws_FnPastsBack.l1 : Nat → List ByteArray → List (S50) → Int → Int → Int → Int → Int → Option (Bool)
  | 0, _, _, _, _, _, _, _ => none
  | k + 1, x0, x3, x4, x22, x23, x26, x27 => if x27 < x26 then (if 0 ≤ x27 then (if x27 < (x0.length : Int) then (if 0 ≤ x4 then (if x4 < (x0.length : Int) then (if (rdOf ByteArray.empty x0 x27).toList = (rdOf ByteArray.empty x0 x4).toList then (some true) else (laws_FnPastsBack.l1 k x0 x3 x4 x22 x23 x26 (wrap64 (x27 + 1)))) else (none)) else (none)) else (none)) else (none)) else (if 0 ≤ x4 then (if x4 < (x0.length : Int) then (if x3.length < 3518437208883 then ((some (x3 ++ [(⟨1, rdOf ByteArray.empty x0 x4, 0, false⟩ : S50)] : List (S50))).bind fun y108 => (if (rdOf ByteArray.empty x0 x4).toList = ([] : List UInt8) then (some true) else (if x4 < (y108.length : Int) then ((laws_past9.f k ((rd_T50 y108 x4).f0) ((rd_T50 y108 x4).f1) ((rd_T50 y108 x4).f2) ((rd_T50 y108 x4).f3)).bind fun t113 => (if t113 = true then (laws_FnPastsBack.l0 k x0 y108 x22 (wrap64 (x23 + 1))) else (some true))) else (none)))) else (none)) else (none)) else (none))
def laws_FnPastsBack.l2 : Nat → List ByteArray → List (S50) → Int → Int → Int → Option (Bool)
  | 0, _, _, _, _, _ => none
  | k + 1, x0, x3, x6, x64, x65 => if x65 < x64 then (if x3.length < 3518437208883 then (laws_FnPastsBack.l2 k x0 (x3 ++ [(⟨3, (⟨#[]⟩ : ByteArray), 0, false⟩ : S50)]) x6 x64 (wrap64 (x65 + 1))) else (none)) else (laws_FnPastsBack.l3 k x0 x3 x6 (wrap64 (x6 - 1)) 0)
def laws_FnPastsBack.l3 : Nat → List ByteArray → List (S50) → Int → Int → Int → Option (Bool)
  | 0, _, _, _, _, _ => none
  | k + 1, x0, x3, x6, x73, x74 => if x74 < x73 then (if x3.length < 3518437208883 then (laws_FnPastsBack.l3 k x0 (x3 ++ [(⟨4, (⟨#[]⟩ : ByteArray), 0, false⟩ : S50)]) x6 x73 (wrap64 (x74 + 1))) else (none)) else ((impl_Pasts.f x3 1000 false).bind fun bt120 => (if bt120.2 = true then (laws_FnPastsBack.j5 k x0 x6 bt120.1 ((bt120.1.length : Int) != (x3.length : Int))) else (laws_FnPastsBack.j5 k x0 x6 bt120.1 true)))
def laws_FnPastsBack.j5 : Nat → List ByteArray → Int → List (S56) → Bool → Option (Bool)
  | 0, _, _, _, _ => none
  | k + 1, x0, x6, x7, x94 => if x94 = true then (some false) else (laws_FnPastsBack.l4 k x0 x6 x7 x6 0)
def laws_FnPastsBack.l4 : Nat → List ByteArray → Int → List (S56) → Int → Int → Option (Bool)
  | 0, _, _, _, _, _ => none
  | k + 1, x0, x6, x7, x95, x96 => if x96 < x95 then (if 0 ≤ (wrap64 (x6 + x96)) then (if (wrap64 (x6 + x96)) < (x7.length : Int) then (if 0 ≤ (wrap64 ((wrap64 (x6 - 1)) - x96)) then (if (wrap64 ((wrap64 (x6 - 1)) - x96)) < (x0.length : Int) then (if (!((((rd_T56 x7 (wrap64 (x6 + x96))).f0).toList) == ((rdOf ByteArray.empty x0 (wrap64 ((wrap64 (x6 - 1)) - x96))).toList)) || (!(((rd_T56 x7 (wrap64 (x6 + x96))).f1) == 1))) = true then (some false) else (if x96 > 0 then (if 0 ≤ (wrap64 ((wrap64 ((wrap64 (2 * x6)) + x96)) - 1)) then (if (wrap64 ((wrap64 ((wrap64 (2 * x6)) + x96)) - 1)) < (x7.length : Int) then (if 0 ≤ x96 then (if x96 < (x0.length : Int) then (if (!((((rd_T56 x7 (wrap64 ((wrap64 ((wrap64 (2 * x6)) + x96)) - 1))).f0).toList) == ((rdOf ByteArray.empty x0 x96).toList)) || (!(((rd_T56 x7 (wrap64 ((wrap64 ((wrap64 (2 * x6)) + x96)) - 1))).f1) == 1))) = true then (some false) else (laws_FnPastsBack.l4 k x0 x6 x7 x95 (wrap64 (x96 + 1)))) else (none)) else (none)) else (none)) else (none)) else (laws_FnPastsBack.l4 k x0 x6 x7 x95 (wrap64 (x96 + 1))))) else (none)) else (none)) else (none)) else (none)) else (some true)
end
def laws_FnPastsBack.f (k : Nat) (l0 : List ByteArray) : Option (Bool) := (laws_zzFits1.f k l0).bind fun t104 => (if t104 = true then (if (l0.length : Int) = 0 then (laws_FnPastsBack.j0 k l0 true) else (laws_FnPastsBack.j0 k l0 (decide ((l0.length : Int) > 15)))) else (some true))
theorem laws_FnPastsBack.mono_l : ∀ k, (∀ y0 y1, LeO (laws_FnPastsBack.j0 k y0 y1) (laws_FnPastsBack.j0 (k + 1) y0 y1)) ∧ (∀ y0 y1 y2 y3, LeO (laws_FnPastsBack.l0 k y0 y1 y2 y3) (laws_FnPastsBack.l0 (k + 1) y0 y1 y2 y3)) ∧ (∀ y0 y1 y2 y3 y4 y5 y6, LeO (laws_FnPastsBack.l1 k y0 y1 y2 y3 y4 y5 y6) (laws_FnPastsBack.l1 (k + 1) y0 y1 y2 y3 y4 y5 y6)) ∧ (∀ y0 y1 y2 y3 y4, LeO (laws_FnPastsBack.l2 k y0 y1 y2 y3 y4) (laws_FnPastsBack.l2 (k + 1) y0 y1 y2 y3 y4)) ∧ (∀ y0 y1 y2 y3 y4, LeO (laws_FnPastsBack.l3 k y0 y1 y2 y3 y4) (laws_FnPastsBack.l3 (k + 1) y0 y1 y2 y3 y4)) ∧ (∀ y0 y1 y2 y3, LeO (laws_FnPastsBack.j5 k y0 y1 y2 y3) (laws_FnPastsBack.j5 (k + 1) y0 y1 y2 y3)) ∧ (∀ y0 y1 y2 y3 y4, LeO (laws_FnPastsBack.l4 k y0 y1 y2 y3 y4) (laws_FnPastsBack.l4 (k + 1) y0 y1 y2 y3 y4))
  | 0 => ⟨fun _ _ r h => by simp [laws_FnPastsBack.j0] at h, fun _ _ _ _ r h => by simp [laws_FnPastsBack.l0] at h, fun _ _ _ _ _ _ _ r h => by simp [laws_FnPastsBack.l1] at h, fun _ _ _ _ _ r h => by simp [laws_FnPastsBack.l2] at h, fun _ _ _ _ _ r h => by simp [laws_FnPastsBack.l3] at h, fun _ _ _ _ r h => by simp [laws_FnPastsBack.j5] at h, fun _ _ _ _ _ r h => by simp [laws_FnPastsBack.l4] at h⟩
  | k + 1 => by
    obtain ⟨ih0, ih1, ih2, ih3, ih4, ih5, ih6⟩ := laws_FnPastsBack.mono_l k
    refine ⟨?_, ?_, ?_, ?_, ?_, ?_, ?_⟩
    · intro y0 y1
      unfold laws_FnPastsBack.j0
      repeat' first
      | (with_reducible exact ih0 _ _)
      | (with_reducible exact ih1 _ _ _ _)
      | (with_reducible exact ih2 _ _ _ _ _ _ _)
      | (with_reducible exact ih3 _ _ _ _ _)
      | (with_reducible exact ih4 _ _ _ _ _)
      | (with_reducible exact ih5 _ _ _ _)
      | (with_reducible exact ih6 _ _ _ _ _)
      | (with_reducible exact laws_past9.mono _ _ _ _ _)
      | (with_reducible exact laws_zzFits1.mono _ _)
      | (with_reducible exact LeO.refl _)
      | (with_reducible exact LeO.none _)
      | (with_reducible refine LeO.ite ?_ ?_)
      | (with_reducible refine LeO.bind ?_ (fun _ => ?_))
      | exact ih0 _ _
      | exact ih1 _ _ _ _
      | exact ih2 _ _ _ _ _ _ _
      | exact ih3 _ _ _ _ _
      | exact ih4 _ _ _ _ _
      | exact ih5 _ _ _ _
      | exact ih6 _ _ _ _ _
      | exact laws_past9.mono _ _ _ _ _
      | exact laws_zzFits1.mono _ _
      | exact LeO.none _
      | refine LeO.ite ?_ ?_
      | refine LeO.bind ?_ (fun _ => ?_)
    · intro y0 y1 y2 y3
      unfold laws_FnPastsBack.l0
      repeat' first
      | (with_reducible exact ih0 _ _)
      | (with_reducible exact ih1 _ _ _ _)
      | (with_reducible exact ih2 _ _ _ _ _ _ _)
      | (with_reducible exact ih3 _ _ _ _ _)
      | (with_reducible exact ih4 _ _ _ _ _)
      | (with_reducible exact ih5 _ _ _ _)
      | (with_reducible exact ih6 _ _ _ _ _)
      | (with_reducible exact laws_past9.mono _ _ _ _ _)
      | (with_reducible exact laws_zzFits1.mono _ _)
      | (with_reducible exact LeO.refl _)
      | (with_reducible exact LeO.none _)
      | (with_reducible refine LeO.ite ?_ ?_)
      | (with_reducible refine LeO.bind ?_ (fun _ => ?_))
      | exact ih0 _ _
      | exact ih1 _ _ _ _
      | exact ih2 _ _ _ _ _ _ _
      | exact ih3 _ _ _ _ _
      | exact ih4 _ _ _ _ _
      | exact ih5 _ _ _ _
      | exact ih6 _ _ _ _ _
      | exact laws_past9.mono _ _ _ _ _
      | exact laws_zzFits1.mono _ _
      | exact LeO.none _
      | refine LeO.ite ?_ ?_
      | refine LeO.bind ?_ (fun _ => ?_)
    · intro y0 y1 y2 y3 y4 y5 y6
      unfold laws_FnPastsBack.l1
      repeat' first
      | (with_reducible exact ih0 _ _)
      | (with_reducible exact ih1 _ _ _ _)
      | (with_reducible exact ih2 _ _ _ _ _ _ _)
      | (with_reducible exact ih3 _ _ _ _ _)
      | (with_reducible exact ih4 _ _ _ _ _)
      | (with_reducible exact ih5 _ _ _ _)
      | (with_reducible exact ih6 _ _ _ _ _)
      | (with_reducible exact laws_past9.mono _ _ _ _ _)
      | (with_reducible exact laws_zzFits1.mono _ _)
      | (with_reducible exact LeO.refl _)
      | (with_reducible exact LeO.none _)
      | (with_reducible refine LeO.ite ?_ ?_)
      | (with_reducible refine LeO.bind ?_ (fun _ => ?_))
      | exact ih0 _ _
      | exact ih1 _ _ _ _
      | exact ih2 _ _ _ _ _ _ _
      | exact ih3 _ _ _ _ _
      | exact ih4 _ _ _ _ _
      | exact ih5 _ _ _ _
      | exact ih6 _ _ _ _ _
      | exact laws_past9.mono _ _ _ _ _
      | exact laws_zzFits1.mono _ _
      | exact LeO.none _
      | refine LeO.ite ?_ ?_
      | refine LeO.bind ?_ (fun _ => ?_)
    · intro y0 y1 y2 y3 y4
      unfold laws_FnPastsBack.l2
      repeat' first
      | (with_reducible exact ih0 _ _)
      | (with_reducible exact ih1 _ _ _ _)
      | (with_reducible exact ih2 _ _ _ _ _ _ _)
      | (with_reducible exact ih3 _ _ _ _ _)
      | (with_reducible exact ih4 _ _ _ _ _)
      | (with_reducible exact ih5 _ _ _ _)
      | (with_reducible exact ih6 _ _ _ _ _)
      | (with_reducible exact laws_past9.mono _ _ _ _ _)
      | (with_reducible exact laws_zzFits1.mono _ _)
      | (with_reducible exact LeO.refl _)
      | (with_reducible exact LeO.none _)
      | (with_reducible refine LeO.ite ?_ ?_)
      | (with_reducible refine LeO.bind ?_ (fun _ => ?_))
      | exact ih0 _ _
      | exact ih1 _ _ _ _
      | exact ih2 _ _ _ _ _ _ _
      | exact ih3 _ _ _ _ _
      | exact ih4 _ _ _ _ _
      | exact ih5 _ _ _ _
      | exact ih6 _ _ _ _ _
      | exact laws_past9.mono _ _ _ _ _
      | exact laws_zzFits1.mono _ _
      | exact LeO.none _
      | refine LeO.ite ?_ ?_
      | refine LeO.bind ?_ (fun _ => ?_)
    · intro y0 y1 y2 y3 y4
      unfold laws_FnPastsBack.l3
      repeat' first
      | (with_reducible exact ih0 _ _)
      | (with_reducible exact ih1 _ _ _ _)
      | (with_reducible exact ih2 _ _ _ _ _ _ _)
      | (with_reducible exact ih3 _ _ _ _ _)
      | (with_reducible exact ih4 _ _ _ _ _)
      | (with_reducible exact ih5 _ _ _ _)
      | (with_reducible exact ih6 _ _ _ _ _)
      | (with_reducible exact laws_past9.mono _ _ _ _ _)
      | (with_reducible exact laws_zzFits1.mono _ _)
      | (with_reducible exact LeO.refl _)
      | (with_reducible exact LeO.none _)
      | (with_reducible refine LeO.ite ?_ ?_)
      | (with_reducible refine LeO.bind ?_ (fun _ => ?_))
      | exact ih0 _ _
      | exact ih1 _ _ _ _
      | exact ih2 _ _ _ _ _ _ _
      | exact ih3 _ _ _ _ _
      | exact ih4 _ _ _ _ _
      | exact ih5 _ _ _ _
      | exact ih6 _ _ _ _ _
      | exact laws_past9.mono _ _ _ _ _
      | exact laws_zzFits1.mono _ _
      | exact LeO.none _
      | refine LeO.ite ?_ ?_
      | refine LeO.bind ?_ (fun _ => ?_)
    · intro y0 y1 y2 y3
      unfold laws_FnPastsBack.j5
      repeat' first
      | (with_reducible exact ih0 _ _)
      | (with_reducible exact ih1 _ _ _ _)
      | (with_reducible exact ih2 _ _ _ _ _ _ _)
      | (with_reducible exact ih3 _ _ _ _ _)
      | (with_reducible exact ih4 _ _ _ _ _)
      | (with_reducible exact ih5 _ _ _ _)
      | (with_reducible exact ih6 _ _ _ _ _)
      | (with_reducible exact laws_past9.mono _ _ _ _ _)
      | (with_reducible exact laws_zzFits1.mono _ _)
      | (with_reducible exact LeO.refl _)
      | (with_reducible exact LeO.none _)
      | (with_reducible refine LeO.ite ?_ ?_)
      | (with_reducible refine LeO.bind ?_ (fun _ => ?_))
      | exact ih0 _ _
      | exact ih1 _ _ _ _
      | exact ih2 _ _ _ _ _ _ _
      | exact ih3 _ _ _ _ _
      | exact ih4 _ _ _ _ _
      | exact ih5 _ _ _ _
      | exact ih6 _ _ _ _ _
      | exact laws_past9.mono _ _ _ _ _
      | exact laws_zzFits1.mono _ _
      | exact LeO.none _
      | refine LeO.ite ?_ ?_
      | refine LeO.bind ?_ (fun _ => ?_)
    · intro y0 y1 y2 y3 y4
      unfold laws_FnPastsBack.l4
      repeat' first
      | (with_reducible exact ih0 _ _)
      | (with_reducible exact ih1 _ _ _ _)
      | (with_reducible exact ih2 _ _ _ _ _ _ _)
      | (with_reducible exact ih3 _ _ _ _ _)
      | (with_reducible exact ih4 _ _ _ _ _)
      | (with_reducible exact ih5 _ _ _ _)
      | (with_reducible exact ih6 _ _ _ _ _)
      | (with_reducible exact laws_past9.mono _ _ _ _ _)
      | (with_reducible exact laws_zzFits1.mono _ _)
      | (with_reducible exact LeO.refl _)
      | (with_reducible exact LeO.none _)
      | (with_reducible refine LeO.ite ?_ ?_)
      | (with_reducible refine LeO.bind ?_ (fun _ => ?_))
      | exact ih0 _ _
      | exact ih1 _ _ _ _
      | exact ih2 _ _ _ _ _ _ _
      | exact ih3 _ _ _ _ _
      | exact ih4 _ _ _ _ _
      | exact ih5 _ _ _ _
      | exact ih6 _ _ _ _ _
      | exact laws_past9.mono _ _ _ _ _
      | exact laws_zzFits1.mono _ _
      | exact LeO.none _
      | refine LeO.ite ?_ ?_
      | refine LeO.bind ?_ (fun _ => ?_)
theorem laws_FnPastsBack.mono : ∀ a0 k, LeO (laws_FnPastsBack.f k a0) (laws_FnPastsBack.f (k + 1) a0) := by
  intro a0 k
  obtain ⟨ih0, ih1, ih2, ih3, ih4, ih5, ih6⟩ := laws_FnPastsBack.mono_l k
  unfold laws_FnPastsBack.f
  repeat' first
      | (with_reducible exact ih0 _ _)
      | (with_reducible exact ih1 _ _ _ _)
      | (with_reducible exact ih2 _ _ _ _ _ _ _)
      | (with_reducible exact ih3 _ _ _ _ _)
      | (with_reducible exact ih4 _ _ _ _ _)
      | (with_reducible exact ih5 _ _ _ _)
      | (with_reducible exact ih6 _ _ _ _ _)
      | (with_reducible exact laws_past9.mono _ _ _ _ _)
      | (with_reducible exact laws_zzFits1.mono _ _)
      | (with_reducible exact LeO.refl _)
      | (with_reducible exact LeO.none _)
      | (with_reducible refine LeO.ite ?_ ?_)
      | (with_reducible refine LeO.bind ?_ (fun _ => ?_))
      | exact ih0 _ _
      | exact ih1 _ _ _ _
      | exact ih2 _ _ _ _ _ _ _
      | exact ih3 _ _ _ _ _
      | exact ih4 _ _ _ _ _
      | exact ih5 _ _ _ _
      | exact ih6 _ _ _ _ _
      | exact laws_past9.mono _ _ _ _ _
      | exact laws_zzFits1.mono _ _
      | exact LeO.none _
      | refine LeO.ite ?_ ?_
      | refine LeO.bind ?_ (fun _ => ?_)
set_option maxHeartbeats 8000000 in
set_option maxRecDepth 100000 in
theorem laws_FnPastsBack.calls (k : Nat) (A0 : Option Addr) (c0 : Nat) (l0 : List ByteArray) (r : Bool) (w : World) (hr0 : Kd.C Kd.string w A0 l0.length l0) (hc0 : l0.length ≤ c0) (h : laws_FnPastsBack.f k l0 = some r) :
    Calls Tryd.prog 12 #[.slice A0 l0.length c0] w fun e w' => e = .returned (.bool r) ∧ Below w.heap.size w w' := by
  have hu50 := Tryd.underlying50
  have hu56 := Tryd.underlying56
  have HR0 := Aside0.mk hr0
  have HC0 := Aside0.mk hc0
  clear hr0 hc0
  have HB := Aside0.mk (Below.refl w.heap.size w)
  have H : ((laws_zzFits1.f k l0).bind fun t104 => (if t104 = true then (if (l0.length : Int) = 0 then (laws_FnPastsBack.j0 k l0 true) else (laws_FnPastsBack.j0 k l0 (decide ((l0.length : Int) > 15)))) else (some true))) = some r := h
  clear h
  replace H := Option.bind_eq_some_iff.mp H
  obtain ⟨t104, A20, H⟩ := H
  replace H : (if t104 = true then (if (l0.length : Int) = 0 then (laws_FnPastsBack.j0 k l0 true) else (laws_FnPastsBack.j0 k l0 (decide ((l0.length : Int) > 15)))) else (some true)) = some r := H
  have A2 := Aside0.mk A20
  clear A20
  by_cases c3 : t104 = true
  · subst c3
    have H1 : (if (l0.length : Int) = 0 then (laws_FnPastsBack.j0 k l0 true) else (laws_FnPastsBack.j0 k l0 (decide ((l0.length : Int) > 15)))) = some r := by rw [if_pos rfl] at H; exact H
    clear H
    have H := H1
    clear H1
    have HC4 := Aside0.mk H
    clear H
    go_enter Tryd.func12, Tryd.ntmps12
    go_upto_region 3 with (first | (go_at_call 25; (with_reducible refine (laws_zzFits1.calls k _ _ l0 true _ ?side1 ?side2 A2.out).mono ?_); (case side1 => repeat (first | exact HR0.out | (with_reducible refine Kd.C_alloc ?_ _) | (with_reducible refine Kd.C_drewN ?_ _) | (with_reducible refine Kd.C_drew ?_))); (case side2 => exact HC0.out); rintro e w' ⟨rfl, ⟨nd, rfl⟩⟩; (try first | exact ⟨rfl, _, World.drewN_drewN _ _ _⟩ | exact ⟨rfl, _, Eq.trans (World.drewN_drewN _ _ _) (congrArg (World.drewN _) (Nat.add_assoc _ _ _))⟩)))
    repeat (go_quiet (first | (go_at_call 25; (with_reducible refine (laws_zzFits1.calls k _ _ l0 true _ ?side1 ?side2 A2.out).mono ?_); (case side1 => repeat (first | exact HR0.out | (with_reducible refine Kd.C_alloc ?_ _) | (with_reducible refine Kd.C_drewN ?_ _) | (with_reducible refine Kd.C_drew ?_))); (case side2 => exact HC0.out); rintro e w' ⟨rfl, ⟨nd, rfl⟩⟩; (try first | exact ⟨rfl, _, World.drewN_drewN _ _ _⟩ | exact ⟨rfl, _, Eq.trans (World.drewN_drewN _ _ _) (congrArg (World.drewN _) (Nat.add_assoc _ _ _))⟩))); go_upto_region 3 with (first | (go_at_call 25; (with_reducible refine (laws_zzFits1.calls k _ _ l0 true _ ?side1 ?side2 A2.out).mono ?_); (case side1 => repeat (first | exact HR0.out | (with_reducible refine Kd.C_alloc ?_ _) | (with_reducible refine Kd.C_drewN ?_ _) | (with_reducible refine Kd.C_drew ?_))); (case side2 => exact HC0.out); rintro e w' ⟨rfl, ⟨nd, rfl⟩⟩; (try first | exact ⟨rfl, _, World.drewN_drewN _ _ _⟩ | exact ⟨rfl, _, Eq.trans (World.drewN_drewN _ _ _) (congrArg (World.drewN _) (Nat.add_assoc _ _ _))⟩))))
    (try simp only [Act.put, List.setIfInBounds_toArray, List.set_cons_zero, List.set_cons_succ])
    go_cut [20] (fun v20 wc => ∃ (kq : Nat) (x20_3 : Bool), v20 = .bool x20_3 ∧ Aside0 (laws_FnPastsBack.j0 kq l0 x20_3 = some r) ∧ Aside0 (kq ≤ k) ∧ Aside0 (Below w.heap.size w wc))
    case first =>
      have H := HC4.out
      clear HC4
      by_cases c5 : (l0.length : Int) = 0
      · rw [if_pos c5] at H
        have c5b0 : ((l0.length : Int) == 0) = true := beq_iff_eq.mpr c5
        have c5b1 : ((l0.length : Int) != 0) = false := bne_eq_false_iff_eq.mpr c5
        clear c5
        (first | rw [c5b0] | (simp only [i64_w, i32_w]; rw [c5b0]) | skip)
        have H' := Aside0.mk H
        clear H
        go_wp2
        repeat (go_quiet (fail); try go_wp2)
        go_meet
        case rel => exact ⟨_, (true), (by first | rfl | (simp; done) | (simp [*]; done)), H', ⟨by first | omega | exact Nat.le_refl _⟩, ⟨by repeat (first | (with_reducible first | exact HB.out | apply below_alloc | apply pw_below_drewN | apply below_drew1) | exact HB.out)⟩⟩
      · rw [if_neg c5] at H
        have c5b0 : ((l0.length : Int) == 0) = false := beq_eq_false_iff_ne.mpr c5
        have c5b1 : ((l0.length : Int) != 0) = true := bne_iff_ne.mpr c5
        have c5b2 : ¬ (l0 = []) := fun h_ => c5 (by rw [h_]; rfl)
        (first | rw [c5b0] | (simp only [i64_w, i32_w]; rw [c5b0]) | skip)
        have H' := Aside0.mk H
        clear H
        go_wp2
        repeat (go_quiet (fail); try go_wp2)
        go_meet
        case rel => exact ⟨_, (decide ((l0.length : Int) > 15)), (by first | rfl | (simp; done) | (simp [*]; done)), H', ⟨by first | omega | exact Nat.le_refl _⟩, ⟨by repeat (first | (with_reducible first | exact HB.out | apply below_alloc | apply pw_below_drewN | apply below_drew1) | exact HB.out)⟩⟩
    case rest =>
      clear HC4
      try clear c1
      try clear p2
      try clear c3
      try clear c5
      try clear c5b0
      try clear c5b1
      try clear c5b2
      obtain ⟨kq, x20_3, rfl, HA, HJ3, HB⟩ := hcut
      cases kq with
      | zero => exact absurd HA.out (by simp [laws_FnPastsBack.j0])
      | succ kj3 =>
        have H := HA.out
        clear HA
        simp only [laws_FnPastsBack.j0] at H
        by_cases c6 : x20_3 = true
        · subst c6
          have H1 : (some true) = some r := by rw [if_pos rfl] at H; exact H
          clear H
          have H := H1
          clear H1
          obtain rfl := Option.some.inj H
          go_wp2
          repeat (go_quiet (fail); try go_wp2)
          go_ret
          exact ⟨by first | rfl | (simp [errW_none, errW_some] <;> rfl) | (simp [*, errW_none, errW_some] <;> rfl), by repeat (first | (with_reducible first | exact HB.out | apply below_alloc | apply pw_below_drewN | apply below_drew1) | exact HB.out)⟩
        · replace c6 := Bool.eq_false_iff.mpr c6
          subst c6
          have H1 : (laws_FnPastsBack.l0 kj3 l0 ([] : List (S50)) (l0.length : Int) 0) = some r := by rw [if_neg (show ¬ (false = true) by decide)] at H; exact H
          clear H
          have H := H1
          clear H1
          have H' := Aside0.mk H
          clear H
          go_wp2
          repeat (go_quiet (fail); try go_wp2)
          go_loopg [3, 23] kj3 (fun kq v3 v23 w' => ∃ (x3_2 : List (S50)) (x23_2 : Int), v23 = .int .i64 x23_2 ∧ Aside0 (laws_FnPastsBack.l0 kq l0 x3_2 (l0.length : Int) x23_2 = some r) ∧ Aside0 (kq ≤ kj3) ∧ Aside0 (Kd.R k50 50 w' w.heap.size (fun _ => True) v3 x3_2) ∧ Aside0 (Below w.heap.size w w'))
          case atStart => exact ⟨(([] : List (S50))), (0), (by first | rfl | (simp; done) | (simp [*]; done)), H', ⟨Nat.le_refl _⟩, ⟨by first | exact Kd.R_nil _ _ _ _ _ | exact Kd.N_nil _ _ _ _ _ | exact Kd.V_nil _ _ _ _ _ | exact Kd.Q_nil _ _ _ _ _ | exact Kd.S_nil _ _ _ _ _⟩, ⟨by repeat (first | (with_reducible first | exact HB.out | apply below_alloc | apply pw_below_drewN | apply below_drew1) | exact HB.out)⟩⟩
          case round =>
            clear H'
            try clear c1
            try clear p2
            try clear c3
            try clear c5
            try clear c5b0
            try clear c5b1
            try clear c5b2
            try clear c6
            try clear p2
            obtain ⟨x3_2, x23_2, rfl, HA, HK2, HO_3, HB⟩ := hrel
            cases gk with
            | zero => exact absurd HA.out (by simp [laws_FnPastsBack.l0])
            | succ k2 =>
              have H := HA.out
              clear HA
              simp only [laws_FnPastsBack.l0] at H
              by_cases c7 : x23_2 < (l0.length : Int)
              · rw [if_pos c7] at H
                have c7b0 : decide (x23_2 < (l0.length : Int)) = true := decide_eq_true c7
                clear c7
                have H' := Aside0.mk H
                clear H
                go_wp2
                repeat (go_quiet (fail); try go_wp2)
                go_loopg [27] k2 (fun kq v27 w' => ∃ (x27_3 : Int), v27 = .int .i64 x27_3 ∧ Aside0 (laws_FnPastsBack.l1 kq l0 x3_2 x23_2 (l0.length : Int) x23_2 x23_2 x27_3 = some r) ∧ Aside0 (kq ≤ k2) ∧ Aside0 (Kd.R k50 50 w' w.heap.size (fun _ => True) u3 x3_2) ∧ Aside0 (Below w.heap.size w w'))
                case atStart => exact ⟨(0), (by first | rfl | (simp; done) | (simp [*]; done)), H', ⟨Nat.le_refl _⟩, ⟨by (with_reducible repeat (first | apply Kd.R_alloc | apply Kd.R_drewN | apply Kd.R_drew)); exact HO_3.out⟩, ⟨by repeat (first | (with_reducible first | exact HB.out | apply below_alloc | apply pw_below_drewN | apply below_drew1) | exact HB.out)⟩⟩
                case round =>
                  clear H'
                  try clear c1
                  try clear p2
                  try clear c3
                  try clear c5
                  try clear c5b0
                  try clear c5b1
                  try clear c5b2
                  try clear c6
                  try clear c7
                  try clear c7b0
                  try clear p2
                  obtain ⟨x27_3, rfl, HA, HK3, HO_3, HB⟩ := hrel
                  cases gk with
                  | zero => exact absurd HA.out (by simp [laws_FnPastsBack.l1])
                  | succ k3 =>
                    have H := HA.out
                    clear HA
                    simp only [laws_FnPastsBack.l1] at H
                    by_cases c8 : x27_3 < x23_2
                    · rw [if_pos c8] at H
                      have c8b0 : decide (x27_3 < x23_2) = true := decide_eq_true c8
                      clear c8
                      by_cases c9 : 0 ≤ x27_3
                      · rw [if_pos c9] at H
                        have c9b0 : decide (0 ≤ x27_3) = true := decide_eq_true c9
                        clear c9
                        by_cases c10 : x27_3 < (l0.length : Int)
                        · rw [if_pos c10] at H
                          have c10b0 : decide (x27_3 < (l0.length : Int)) = true := decide_eq_true c10
                          clear c10
                          by_cases c11 : 0 ≤ x23_2
                          · rw [if_pos c11] at H
                            have c11b0 : decide (0 ≤ x23_2) = true := decide_eq_true c11
                            clear c11
                            by_cases c12 : x23_2 < (l0.length : Int)
                            · rw [if_pos c12] at H
                              have c12b0 : decide (x23_2 < (l0.length : Int)) = true := decide_eq_true c12
                              clear c12
                              by_cases c13 : (rdOf ByteArray.empty l0 x27_3).toList = (rdOf ByteArray.empty l0 x23_2).toList
                              · rw [if_pos c13] at H
                                have c13b0 : ((rdOf ByteArray.empty l0 x27_3).toList == (rdOf ByteArray.empty l0 x23_2).toList) = true := beq_iff_eq.mpr c13
                                have c13b1 : ((rdOf ByteArray.empty l0 x27_3).toList != (rdOf ByteArray.empty l0 x23_2).toList) = false := bne_eq_false_iff_eq.mpr c13
                                clear c13
                                obtain rfl := Option.some.inj H
                                have p105 : 0 ≤ (x27_3 : Int) := of_decide_eq_true (by first | (with_reducible assumption) | assumption)
                                have q105 : x27_3 < (l0.length : Int) := of_decide_eq_true (by first | (with_reducible assumption) | assumption)
                                obtain ⟨ad105, e105, hx105_0⟩ := Kd.at_string HR0.out x27_3 p105 q105
                                cases e105
                                replace hx105_0 := (HB.out.cell (World.block_lt_of_cell? w _ hx105_0)).trans hx105_0
                                replace p105 := eq_true p105
                                replace q105 := eq_true q105
                                have p106 : 0 ≤ (x23_2 : Int) := of_decide_eq_true (by first | (with_reducible assumption) | assumption)
                                have q106 : x23_2 < (l0.length : Int) := of_decide_eq_true (by first | (with_reducible assumption) | assumption)
                                obtain ⟨ad106, e106, hx106_0⟩ := Kd.at_string HR0.out x23_2 p106 q106
                                obtain rfl : ad105 = ad106 := (by injection e106)
                                replace hx106_0 := (HB.out.cell (World.block_lt_of_cell? w _ hx106_0)).trans hx106_0
                                replace p106 := eq_true p106
                                replace q106 := eq_true q106
                                go_wp2
                                repeat (go_quiet (fail); try go_wp2)
                                go_ret
                                exact ⟨by first | rfl | (simp [errW_none, errW_some] <;> rfl) | (simp [*, errW_none, errW_some] <;> rfl), by repeat (first | (with_reducible first | exact HB.out | apply below_alloc | apply pw_below_drewN | apply below_drew1) | exact HB.out)⟩
                              · rw [if_neg c13] at H
                                have c13b0 : ((rdOf ByteArray.empty l0 x27_3).toList == (rdOf ByteArray.empty l0 x23_2).toList) = false := beq_eq_false_iff_ne.mpr c13
                                have c13b1 : ((rdOf ByteArray.empty l0 x27_3).toList != (rdOf ByteArray.empty l0 x23_2).toList) = true := bne_iff_ne.mpr c13
                                have H' := Aside0.mk H
                                clear H
                                have p105 : 0 ≤ (x27_3 : Int) := of_decide_eq_true (by first | (with_reducible assumption) | assumption)
                                have q105 : x27_3 < (l0.length : Int) := of_decide_eq_true (by first | (with_reducible assumption) | assumption)
                                obtain ⟨ad105, e105, hx105_0⟩ := Kd.at_string HR0.out x27_3 p105 q105
                                cases e105
                                replace hx105_0 := (HB.out.cell (World.block_lt_of_cell? w _ hx105_0)).trans hx105_0
                                replace p105 := eq_true p105
                                replace q105 := eq_true q105
                                have p106 : 0 ≤ (x23_2 : Int) := of_decide_eq_true (by first | (with_reducible assumption) | assumption)
                                have q106 : x23_2 < (l0.length : Int) := of_decide_eq_true (by first | (with_reducible assumption) | assumption)
                                obtain ⟨ad106, e106, hx106_0⟩ := Kd.at_string HR0.out x23_2 p106 q106
                                obtain rfl : ad105 = ad106 := (by injection e106)
                                replace hx106_0 := (HB.out.cell (World.block_lt_of_cell? w _ hx106_0)).trans hx106_0
                                replace p106 := eq_true p106
                                replace q106 := eq_true q106
                                go_wp2
                                repeat (go_quiet (fail); try go_wp2)
                                go_roundg k3
                                case measure => have := HJ3.out; have := HK2.out; have := HK3.out; omega
                                case rel => exact ⟨(wrap64 (x27_3 + 1)), (by first | rfl | (simp; done) | (simp [*]; done)), H', ⟨by have := HJ3.out; have := HK2.out; have := HK3.out; omega⟩, ⟨by (with_reducible repeat (first | apply Kd.R_alloc | apply Kd.R_drewN | apply Kd.R_drew)); exact HO_3.out⟩, ⟨by repeat (first | (with_reducible first | exact HB.out | apply below_alloc | apply pw_below_drewN | apply below_drew1) | exact HB.out)⟩⟩
                            · rw [if_neg c12] at H
                              exact absurd H (by simp)
                          · rw [if_neg c11] at H
                            exact absurd H (by simp)
                        · rw [if_neg c10] at H
                          exact absurd H (by simp)
                      · rw [if_neg c9] at H
                        exact absurd H (by simp)
                    · rw [if_neg c8] at H
                      have c8b0 : decide (x27_3 < x23_2) = false := decide_eq_false c8
                      clear c8
                      by_cases c14 : 0 ≤ x23_2
                      · rw [if_pos c14] at H
                        have c14b0 : decide (0 ≤ x23_2) = true := decide_eq_true c14
                        clear c14
                        by_cases c15 : x23_2 < (l0.length : Int)
                        · rw [if_pos c15] at H
                          have c15b0 : decide (x23_2 < (l0.length : Int)) = true := decide_eq_true c15
                          clear c15
                          by_cases c16 : x3_2.length < 3518437208883
                          · rw [if_pos c16] at H
                            have LMc16 := Aside0.mk c16
                            clear c16
                            obtain ⟨y108, hy108⟩ : ∃ y_ : List (S50), y_ = (x3_2 ++ [(⟨1, rdOf ByteArray.empty l0 x23_2, 0, false⟩ : S50)]) := ⟨_, rfl⟩
                            replace H : (if (rdOf ByteArray.empty l0 x23_2).toList = ([] : List UInt8) then (some true) else (if x23_2 < (y108.length : Int) then ((laws_past9.f k3 ((rd_T50 y108 x23_2).f0) ((rd_T50 y108 x23_2).f1) ((rd_T50 y108 x23_2).f2) ((rd_T50 y108 x23_2).f3)).bind fun t113 => (if t113 = true then (laws_FnPastsBack.l0 k3 l0 y108 (l0.length : Int) (wrap64 (x23_2 + 1))) else (some true))) else (none))) = some r := by first | (rw [hy108]; with_reducible exact H) | (have H2_ := (Option.bind_some _ _).symm.trans H; rw [hy108]; with_reducible exact H2_) | (have H2_ := (Option.bind_some _ _).symm.trans H; with_reducible exact H2_) | with_reducible exact H | (rw [hy108]; exact H) | exact H
                            have Ny108 := Aside0.mk hy108
                            clear hy108
                            by_cases c17 : (rdOf ByteArray.empty l0 x23_2).toList = ([] : List UInt8)
                            · rw [if_pos c17] at H
                              have c17b0 : ((rdOf ByteArray.empty l0 x23_2).toList == ([] : List UInt8)) = true := beq_iff_eq.mpr c17
                              have c17b1 : ((rdOf ByteArray.empty l0 x23_2).toList != ([] : List UInt8)) = false := bne_eq_false_iff_eq.mpr c17
                              clear c17
                              obtain rfl := Option.some.inj H
                              have p107 : 0 ≤ (x23_2 : Int) := of_decide_eq_true (by first | (with_reducible assumption) | assumption)
                              have q107 : x23_2 < (l0.length : Int) := of_decide_eq_true (by first | (with_reducible assumption) | assumption)
                              obtain ⟨ad107, e107, hx107_0⟩ := Kd.at_string HR0.out x23_2 p107 q107
                              cases e107
                              replace hx107_0 := (HB.out.cell (World.block_lt_of_cell? w _ hx107_0)).trans hx107_0
                              replace p107 := eq_true p107
                              replace q107 := eq_true q107
                              go_wp2_with (first | ((with_reducible refine gate_builtin (b := .append) (xs := #[.tmp 40, .tmp 46]) rfl ?_); (try (refine gate_guard (by rfl) ?_; dsimp only)); at_builtin; refine Kd.R_append k50 (w0 := w) w.heap.size rfl (.tmp 40) (.tmp 46) 48 50 (.agg #[(.int .i64 0), (.string ⟨#[]⟩), (.int .i64 0), (.bool false)]) 40 rfl Tryd.underlying48 info50 rfl (by decide) (by omega) u3 x3_2 (⟨1, rdOf ByteArray.empty l0 x23_2, 0, false⟩ : S50) [.int .i64 1, .string (rdOf ByteArray.empty l0 x23_2), .int .i64 0, .bool false] (fun _ => True) (fun _ => False) rfl rfl ?aP (fun _ hk => hk.elim) ?aF ?aO ?aB ?aS ?aL ?_; (case aP => exact k50_mkM _ _ _ (⟨1, rdOf ByteArray.empty l0 x23_2, 0, false⟩ : S50)); (case aB => exact (by repeat (first | (with_reducible first | exact HB.out | apply below_alloc | apply pw_below_drewN | apply below_drew1) | exact HB.out))); (case aF => exact (fun _ _ => trivial)); (case aO => exact (by (with_reducible repeat (first | apply Kd.R_alloc | apply Kd.R_drewN | apply Kd.R_drew)); exact HO_3.out)); (case aS => exact (below_size (by repeat (first | (with_reducible first | exact HB.out | apply below_alloc | apply pw_below_drewN | apply below_drew1) | exact HB.out)))); (case aL => have := LMc16.out; omega); intro v109 w18 ho hb hg hat; rw [← Ny108.out] at ho; have n0_ := Aside0.mk (hb); have n1_ := Aside0.mk (ho); clear HB; clear HO_3; have HB := n0_; have HO110 := n1_; clear n0_ n1_; clear ho hb hg hat; have p111 : 0 ≤ (x23_2 : Int) := of_decide_eq_true (by first | (with_reducible assumption) | assumption); have q111 : x23_2 < (l0.length : Int) := of_decide_eq_true (by first | (with_reducible assumption) | assumption); obtain ⟨ad111, e111, hx111_0⟩ := Kd.at_string HR0.out x23_2 p111 q111; obtain rfl : ad107 = ad111 := (by injection e111); replace hx111_0 := (HB.out.cell (World.block_lt_of_cell? w _ hx111_0)).trans hx111_0; replace p111 := eq_true p111; replace q111 := eq_true q111))
                              repeat (go_quiet (first | ((with_reducible refine gate_builtin (b := .append) (xs := #[.tmp 40, .tmp 46]) rfl ?_); (try (refine gate_guard (by rfl) ?_; dsimp only)); at_builtin; refine Kd.R_append k50 (w0 := w) w.heap.size rfl (.tmp 40) (.tmp 46) 48 50 (.agg #[(.int .i64 0), (.string ⟨#[]⟩), (.int .i64 0), (.bool false)]) 40 rfl Tryd.underlying48 info50 rfl (by decide) (by omega) u3 x3_2 (⟨1, rdOf ByteArray.empty l0 x23_2, 0, false⟩ : S50) [.int .i64 1, .string (rdOf ByteArray.empty l0 x23_2), .int .i64 0, .bool false] (fun _ => True) (fun _ => False) rfl rfl ?aP (fun _ hk => hk.elim) ?aF ?aO ?aB ?aS ?aL ?_; (case aP => exact k50_mkM _ _ _ (⟨1, rdOf ByteArray.empty l0 x23_2, 0, false⟩ : S50)); (case aB => exact (by repeat (first | (with_reducible first | exact HB.out | apply below_alloc | apply pw_below_drewN | apply below_drew1) | exact HB.out))); (case aF => exact (fun _ _ => trivial)); (case aO => exact (by (with_reducible repeat (first | apply Kd.R_alloc | apply Kd.R_drewN | apply Kd.R_drew)); exact HO_3.out)); (case aS => exact (below_size (by repeat (first | (with_reducible first | exact HB.out | apply below_alloc | apply pw_below_drewN | apply below_drew1) | exact HB.out)))); (case aL => have := LMc16.out; omega); intro v109 w18 ho hb hg hat; rw [← Ny108.out] at ho; have n0_ := Aside0.mk (hb); have n1_ := Aside0.mk (ho); clear HB; clear HO_3; have HB := n0_; have HO110 := n1_; clear n0_ n1_; clear ho hb hg hat; have p111 : 0 ≤ (x23_2 : Int) := of_decide_eq_true (by first | (with_reducible assumption) | assumption); have q111 : x23_2 < (l0.length : Int) := of_decide_eq_true (by first | (with_reducible assumption) | assumption); obtain ⟨ad111, e111, hx111_0⟩ := Kd.at_string HR0.out x23_2 p111 q111; obtain rfl : ad107 = ad111 := (by injection e111); replace hx111_0 := (HB.out.cell (World.block_lt_of_cell? w _ hx111_0)).trans hx111_0; replace p111 := eq_true p111; replace q111 := eq_true q111)); try go_wp2_with (first | ((with_reducible refine gate_builtin (b := .append) (xs := #[.tmp 40, .tmp 46]) rfl ?_); (try (refine gate_guard (by rfl) ?_; dsimp only)); at_builtin; refine Kd.R_append k50 (w0 := w) w.heap.size rfl (.tmp 40) (.tmp 46) 48 50 (.agg #[(.int .i64 0), (.string ⟨#[]⟩), (.int .i64 0), (.bool false)]) 40 rfl Tryd.underlying48 info50 rfl (by decide) (by omega) u3 x3_2 (⟨1, rdOf ByteArray.empty l0 x23_2, 0, false⟩ : S50) [.int .i64 1, .string (rdOf ByteArray.empty l0 x23_2), .int .i64 0, .bool false] (fun _ => True) (fun _ => False) rfl rfl ?aP (fun _ hk => hk.elim) ?aF ?aO ?aB ?aS ?aL ?_; (case aP => exact k50_mkM _ _ _ (⟨1, rdOf ByteArray.empty l0 x23_2, 0, false⟩ : S50)); (case aB => exact (by repeat (first | (with_reducible first | exact HB.out | apply below_alloc | apply pw_below_drewN | apply below_drew1) | exact HB.out))); (case aF => exact (fun _ _ => trivial)); (case aO => exact (by (with_reducible repeat (first | apply Kd.R_alloc | apply Kd.R_drewN | apply Kd.R_drew)); exact HO_3.out)); (case aS => exact (below_size (by repeat (first | (with_reducible first | exact HB.out | apply below_alloc | apply pw_below_drewN | apply below_drew1) | exact HB.out)))); (case aL => have := LMc16.out; omega); intro v109 w18 ho hb hg hat; rw [← Ny108.out] at ho; have n0_ := Aside0.mk (hb); have n1_ := Aside0.mk (ho); clear HB; clear HO_3; have HB := n0_; have HO110 := n1_; clear n0_ n1_; clear ho hb hg hat; have p111 : 0 ≤ (x23_2 : Int) := of_decide_eq_true (by first | (with_reducible assumption) | assumption); have q111 : x23_2 < (l0.length : Int) := of_decide_eq_true (by first | (with_reducible assumption) | assumption); obtain ⟨ad111, e111, hx111_0⟩ := Kd.at_string HR0.out x23_2 p111 q111; obtain rfl : ad107 = ad111 := (by injection e111); replace hx111_0 := (HB.out.cell (World.block_lt_of_cell? w _ hx111_0)).trans hx111_0; replace p111 := eq_true p111; replace q111 := eq_true q111)))
                              go_ret
                              exact ⟨by first | rfl | (simp [errW_none, errW_some] <;> rfl) | (simp [*, errW_none, errW_some] <;> rfl), by repeat (first | (with_reducible first | exact HB.out | apply below_alloc | apply pw_below_drewN | apply below_drew1) | exact HB.out)⟩
                            · rw [if_neg c17] at H
                              have c17b0 : ((rdOf ByteArray.empty l0 x23_2).toList == ([] : List UInt8)) = false := beq_eq_false_iff_ne.mpr c17
                              have c17b1 : ((rdOf ByteArray.empty l0 x23_2).toList != ([] : List UInt8)) = true := bne_iff_ne.mpr c17
                              by_cases c19 : x23_2 < (y108.length : Int)
                              · rw [if_pos c19] at H
                                have c19b0 : decide (x23_2 < (y108.length : Int)) = true := decide_eq_true c19
                                clear c19
                                replace H := Option.bind_eq_some_iff.mp H
                                obtain ⟨t113, A200, H⟩ := H
                                replace H : (if t113 = true then (laws_FnPastsBack.l0 k3 l0 y108 (l0.length : Int) (wrap64 (x23_2 + 1))) else (some true)) = some r := H
                                have A20 := Aside0.mk A200
                                clear A200
                                by_cases c21 : t113 = true
                                · subst c21
                                  have H1 : (laws_FnPastsBack.l0 k3 l0 y108 (l0.length : Int) (wrap64 (x23_2 + 1))) = some r := by rw [if_pos rfl] at H; exact H
                                  clear H
                                  have H := H1
                                  clear H1
                                  have H' := Aside0.mk H
                                  clear H
                                  have p107 : 0 ≤ (x23_2 : Int) := of_decide_eq_true (by first | (with_reducible assumption) | assumption)
                                  have q107 : x23_2 < (l0.length : Int) := of_decide_eq_true (by first | (with_reducible assumption) | assumption)
                                  obtain ⟨ad107, e107, hx107_0⟩ := Kd.at_string HR0.out x23_2 p107 q107
                                  cases e107
                                  replace hx107_0 := (HB.out.cell (World.block_lt_of_cell? w _ hx107_0)).trans hx107_0
                                  replace p107 := eq_true p107
                                  replace q107 := eq_true q107
                                  go_wp2_with (first | ((with_reducible refine gate_builtin (b := .append) (xs := #[.tmp 40, .tmp 46]) rfl ?_); (try (refine gate_guard (by rfl) ?_; dsimp only)); at_builtin; refine Kd.R_append k50 (w0 := w) w.heap.size rfl (.tmp 40) (.tmp 46) 48 50 (.agg #[(.int .i64 0), (.string ⟨#[]⟩), (.int .i64 0), (.bool false)]) 40 rfl Tryd.underlying48 info50 rfl (by decide) (by omega) u3 x3_2 (⟨1, rdOf ByteArray.empty l0 x23_2, 0, false⟩ : S50) [.int .i64 1, .string (rdOf ByteArray.empty l0 x23_2), .int .i64 0, .bool false] (fun _ => True) (fun _ => False) rfl rfl ?aP (fun _ hk => hk.elim) ?aF ?aO ?aB ?aS ?aL ?_; (case aP => exact k50_mkM _ _ _ (⟨1, rdOf ByteArray.empty l0 x23_2, 0, false⟩ : S50)); (case aB => exact (by repeat (first | (with_reducible first | exact HB.out | apply below_alloc | apply pw_below_drewN | apply below_drew1) | exact HB.out))); (case aF => exact (fun _ _ => trivial)); (case aO => exact (by (with_reducible repeat (first | apply Kd.R_alloc | apply Kd.R_drewN | apply Kd.R_drew)); exact HO_3.out)); (case aS => exact (below_size (by repeat (first | (with_reducible first | exact HB.out | apply below_alloc | apply pw_below_drewN | apply below_drew1) | exact HB.out)))); (case aL => have := LMc16.out; omega); intro v109 w22 ho hb hg hat; rw [← Ny108.out] at ho; have n0_ := Aside0.mk (hb); have n1_ := Aside0.mk (ho); clear HB; clear HO_3; have HB := n0_; have HO110 := n1_; clear n0_ n1_; clear ho hb hg hat; have p111 : 0 ≤ (x23_2 : Int) := of_decide_eq_true (by first | (with_reducible assumption) | assumption); have q111 : x23_2 < (l0.length : Int) := of_decide_eq_true (by first | (with_reducible assumption) | assumption); obtain ⟨ad111, e111, hx111_0⟩ := Kd.at_string HR0.out x23_2 p111 q111; obtain rfl : ad107 = ad111 := (by injection e111); replace hx111_0 := (HB.out.cell (World.block_lt_of_cell? w _ hx111_0)).trans hx111_0; replace p111 := eq_true p111; replace q111 := eq_true q111; obtain ⟨Ao23, co23, eo23⟩ := Kd.R_slice HO110.out; subst eo23; have p112 : 0 ≤ (x23_2 : Int) := of_decide_eq_true (by first | (with_reducible assumption) | assumption); have q112 : x23_2 < (y108.length : Int) := of_decide_eq_true (by first | (with_reducible assumption) | assumption); obtain ⟨ad112, e112, hx112_0, hx112_1, hx112_2, hx112_3⟩ := at_T50 (Kd.R_reads' HO110.out).2.2 x23_2 p112 q112; cases e112; replace p112 := eq_true p112; replace q112 := eq_true q112) | (go_at_call 26; (with_reducible refine (laws_past9.calls k3 ((rd_T50 y108 x23_2).f0) ((rd_T50 y108 x23_2).f1) ((rd_T50 y108 x23_2).f2) ((rd_T50 y108 x23_2).f3) true _ A20.out).mono ?_); rintro e w24 ⟨rfl, hb⟩; have n0_ := Aside0.mk (Kd.R_below (by (with_reducible repeat (first | apply Kd.R_alloc | apply Kd.R_drewN | apply Kd.R_drew)); exact HO110.out) hb); have n1_ := Aside0.mk (below_step (by repeat (first | (with_reducible first | exact HB.out | apply below_alloc | apply pw_below_drewN | apply below_drew1) | exact HB.out)) hb); clear HO110; clear HB; have HO110 := n0_; have HB := n1_; clear n0_ n1_; (try clear hb); (try clear hb2); (try clear hk); (try clear hi)))
                                  repeat (go_quiet (first | ((with_reducible refine gate_builtin (b := .append) (xs := #[.tmp 40, .tmp 46]) rfl ?_); (try (refine gate_guard (by rfl) ?_; dsimp only)); at_builtin; refine Kd.R_append k50 (w0 := w) w.heap.size rfl (.tmp 40) (.tmp 46) 48 50 (.agg #[(.int .i64 0), (.string ⟨#[]⟩), (.int .i64 0), (.bool false)]) 40 rfl Tryd.underlying48 info50 rfl (by decide) (by omega) u3 x3_2 (⟨1, rdOf ByteArray.empty l0 x23_2, 0, false⟩ : S50) [.int .i64 1, .string (rdOf ByteArray.empty l0 x23_2), .int .i64 0, .bool false] (fun _ => True) (fun _ => False) rfl rfl ?aP (fun _ hk => hk.elim) ?aF ?aO ?aB ?aS ?aL ?_; (case aP => exact k50_mkM _ _ _ (⟨1, rdOf ByteArray.empty l0 x23_2, 0, false⟩ : S50)); (case aB => exact (by repeat (first | (with_reducible first | exact HB.out | apply below_alloc | apply pw_below_drewN | apply below_drew1) | exact HB.out))); (case aF => exact (fun _ _ => trivial)); (case aO => exact (by (with_reducible repeat (first | apply Kd.R_alloc | apply Kd.R_drewN | apply Kd.R_drew)); exact HO_3.out)); (case aS => exact (below_size (by repeat (first | (with_reducible first | exact HB.out | apply below_alloc | apply pw_below_drewN | apply below_drew1) | exact HB.out)))); (case aL => have := LMc16.out; omega); intro v109 w22 ho hb hg hat; rw [← Ny108.out] at ho; have n0_ := Aside0.mk (hb); have n1_ := Aside0.mk (ho); clear HB; clear HO_3; have HB := n0_; have HO110 := n1_; clear n0_ n1_; clear ho hb hg hat; have p111 : 0 ≤ (x23_2 : Int) := of_decide_eq_true (by first | (with_reducible assumption) | assumption); have q111 : x23_2 < (l0.length : Int) := of_decide_eq_true (by first | (with_reducible assumption) | assumption); obtain ⟨ad111, e111, hx111_0⟩ := Kd.at_string HR0.out x23_2 p111 q111; obtain rfl : ad107 = ad111 := (by injection e111); replace hx111_0 := (HB.out.cell (World.block_lt_of_cell? w _ hx111_0)).trans hx111_0; replace p111 := eq_true p111; replace q111 := eq_true q111; obtain ⟨Ao23, co23, eo23⟩ := Kd.R_slice HO110.out; subst eo23; have p112 : 0 ≤ (x23_2 : Int) := of_decide_eq_true (by first | (with_reducible assumption) | assumption); have q112 : x23_2 < (y108.length : Int) := of_decide_eq_true (by first | (with_reducible assumption) | assumption); obtain ⟨ad112, e112, hx112_0, hx112_1, hx112_2, hx112_3⟩ := at_T50 (Kd.R_reads' HO110.out).2.2 x23_2 p112 q112; cases e112; replace p112 := eq_true p112; replace q112 := eq_true q112) | (go_at_call 26; (with_reducible refine (laws_past9.calls k3 ((rd_T50 y108 x23_2).f0) ((rd_T50 y108 x23_2).f1) ((rd_T50 y108 x23_2).f2) ((rd_T50 y108 x23_2).f3) true _ A20.out).mono ?_); rintro e w24 ⟨rfl, hb⟩; have n0_ := Aside0.mk (Kd.R_below (by (with_reducible repeat (first | apply Kd.R_alloc | apply Kd.R_drewN | apply Kd.R_drew)); exact HO110.out) hb); have n1_ := Aside0.mk (below_step (by repeat (first | (with_reducible first | exact HB.out | apply below_alloc | apply pw_below_drewN | apply below_drew1) | exact HB.out)) hb); clear HO110; clear HB; have HO110 := n0_; have HB := n1_; clear n0_ n1_; (try clear hb); (try clear hb2); (try clear hk); (try clear hi))); try go_wp2_with (first | ((with_reducible refine gate_builtin (b := .append) (xs := #[.tmp 40, .tmp 46]) rfl ?_); (try (refine gate_guard (by rfl) ?_; dsimp only)); at_builtin; refine Kd.R_append k50 (w0 := w) w.heap.size rfl (.tmp 40) (.tmp 46) 48 50 (.agg #[(.int .i64 0), (.string ⟨#[]⟩), (.int .i64 0), (.bool false)]) 40 rfl Tryd.underlying48 info50 rfl (by decide) (by omega) u3 x3_2 (⟨1, rdOf ByteArray.empty l0 x23_2, 0, false⟩ : S50) [.int .i64 1, .string (rdOf ByteArray.empty l0 x23_2), .int .i64 0, .bool false] (fun _ => True) (fun _ => False) rfl rfl ?aP (fun _ hk => hk.elim) ?aF ?aO ?aB ?aS ?aL ?_; (case aP => exact k50_mkM _ _ _ (⟨1, rdOf ByteArray.empty l0 x23_2, 0, false⟩ : S50)); (case aB => exact (by repeat (first | (with_reducible first | exact HB.out | apply below_alloc | apply pw_below_drewN | apply below_drew1) | exact HB.out))); (case aF => exact (fun _ _ => trivial)); (case aO => exact (by (with_reducible repeat (first | apply Kd.R_alloc | apply Kd.R_drewN | apply Kd.R_drew)); exact HO_3.out)); (case aS => exact (below_size (by repeat (first | (with_reducible first | exact HB.out | apply below_alloc | apply pw_below_drewN | apply below_drew1) | exact HB.out)))); (case aL => have := LMc16.out; omega); intro v109 w22 ho hb hg hat; rw [← Ny108.out] at ho; have n0_ := Aside0.mk (hb); have n1_ := Aside0.mk (ho); clear HB; clear HO_3; have HB := n0_; have HO110 := n1_; clear n0_ n1_; clear ho hb hg hat; have p111 : 0 ≤ (x23_2 : Int) := of_decide_eq_true (by first | (with_reducible assumption) | assumption); have q111 : x23_2 < (l0.length : Int) := of_decide_eq_true (by first | (with_reducible assumption) | assumption); obtain ⟨ad111, e111, hx111_0⟩ := Kd.at_string HR0.out x23_2 p111 q111; obtain rfl : ad107 = ad111 := (by injection e111); replace hx111_0 := (HB.out.cell (World.block_lt_of_cell? w _ hx111_0)).trans hx111_0; replace p111 := eq_true p111; replace q111 := eq_true q111; obtain ⟨Ao23, co23, eo23⟩ := Kd.R_slice HO110.out; subst eo23; have p112 : 0 ≤ (x23_2 : Int) := of_decide_eq_true (by first | (with_reducible assumption) | assumption); have q112 : x23_2 < (y108.length : Int) := of_decide_eq_true (by first | (with_reducible assumption) | assumption); obtain ⟨ad112, e112, hx112_0, hx112_1, hx112_2, hx112_3⟩ := at_T50 (Kd.R_reads' HO110.out).2.2 x23_2 p112 q112; cases e112; replace p112 := eq_true p112; replace q112 := eq_true q112) | (go_at_call 26; (with_reducible refine (laws_past9.calls k3 ((rd_T50 y108 x23_2).f0) ((rd_T50 y108 x23_2).f1) ((rd_T50 y108 x23_2).f2) ((rd_T50 y108 x23_2).f3) true _ A20.out).mono ?_); rintro e w24 ⟨rfl, hb⟩; have n0_ := Aside0.mk (Kd.R_below (by (with_reducible repeat (first | apply Kd.R_alloc | apply Kd.R_drewN | apply Kd.R_drew)); exact HO110.out) hb); have n1_ := Aside0.mk (below_step (by repeat (first | (with_reducible first | exact HB.out | apply below_alloc | apply pw_below_drewN | apply below_drew1) | exact HB.out)) hb); clear HO110; clear HB; have HO110 := n0_; have HB := n1_; clear n0_ n1_; (try clear hb); (try clear hb2); (try clear hk); (try clear hi))))
                                  go_roundg k3
                                  case measure => have := HJ3.out; have := HK2.out; have := HK3.out; omega
                                  case rel => exact ⟨(y108), (wrap64 (x23_2 + 1)), (by first | rfl | (simp; done) | (simp [*]; done)), H', ⟨by have := HJ3.out; have := HK2.out; have := HK3.out; omega⟩, ⟨by (with_reducible repeat (first | apply Kd.R_alloc | apply Kd.R_drewN | apply Kd.R_drew)); exact HO110.out⟩, ⟨by repeat (first | (with_reducible first | exact HB.out | apply below_alloc | apply pw_below_drewN | apply below_drew1) | exact HB.out)⟩⟩
                                · replace c21 := Bool.eq_false_iff.mpr c21
                                  subst c21
                                  have H1 : (some true) = some r := by rw [if_neg (show ¬ (false = true) by decide)] at H; exact H
                                  clear H
                                  have H := H1
                                  clear H1
                                  obtain rfl := Option.some.inj H
                                  have p107 : 0 ≤ (x23_2 : Int) := of_decide_eq_true (by first | (with_reducible assumption) | assumption)
                                  have q107 : x23_2 < (l0.length : Int) := of_decide_eq_true (by first | (with_reducible assumption) | assumption)
                                  obtain ⟨ad107, e107, hx107_0⟩ := Kd.at_string HR0.out x23_2 p107 q107
                                  cases e107
                                  replace hx107_0 := (HB.out.cell (World.block_lt_of_cell? w _ hx107_0)).trans hx107_0
                                  replace p107 := eq_true p107
                                  replace q107 := eq_true q107
                                  go_wp2_with (first | ((with_reducible refine gate_builtin (b := .append) (xs := #[.tmp 40, .tmp 46]) rfl ?_); (try (refine gate_guard (by rfl) ?_; dsimp only)); at_builtin; refine Kd.R_append k50 (w0 := w) w.heap.size rfl (.tmp 40) (.tmp 46) 48 50 (.agg #[(.int .i64 0), (.string ⟨#[]⟩), (.int .i64 0), (.bool false)]) 40 rfl Tryd.underlying48 info50 rfl (by decide) (by omega) u3 x3_2 (⟨1, rdOf ByteArray.empty l0 x23_2, 0, false⟩ : S50) [.int .i64 1, .string (rdOf ByteArray.empty l0 x23_2), .int .i64 0, .bool false] (fun _ => True) (fun _ => False) rfl rfl ?aP (fun _ hk => hk.elim) ?aF ?aO ?aB ?aS ?aL ?_; (case aP => exact k50_mkM _ _ _ (⟨1, rdOf ByteArray.empty l0 x23_2, 0, false⟩ : S50)); (case aB => exact (by repeat (first | (with_reducible first | exact HB.out | apply below_alloc | apply pw_below_drewN | apply below_drew1) | exact HB.out))); (case aF => exact (fun _ _ => trivial)); (case aO => exact (by (with_reducible repeat (first | apply Kd.R_alloc | apply Kd.R_drewN | apply Kd.R_drew)); exact HO_3.out)); (case aS => exact (below_size (by repeat (first | (with_reducible first | exact HB.out | apply below_alloc | apply pw_below_drewN | apply below_drew1) | exact HB.out)))); (case aL => have := LMc16.out; omega); intro v109 w25 ho hb hg hat; rw [← Ny108.out] at ho; have n0_ := Aside0.mk (hb); have n1_ := Aside0.mk (ho); clear HB; clear HO_3; have HB := n0_; have HO110 := n1_; clear n0_ n1_; clear ho hb hg hat; have p111 : 0 ≤ (x23_2 : Int) := of_decide_eq_true (by first | (with_reducible assumption) | assumption); have q111 : x23_2 < (l0.length : Int) := of_decide_eq_true (by first | (with_reducible assumption) | assumption); obtain ⟨ad111, e111, hx111_0⟩ := Kd.at_string HR0.out x23_2 p111 q111; obtain rfl : ad107 = ad111 := (by injection e111); replace hx111_0 := (HB.out.cell (World.block_lt_of_cell? w _ hx111_0)).trans hx111_0; replace p111 := eq_true p111; replace q111 := eq_true q111; obtain ⟨Ao26, co26, eo26⟩ := Kd.R_slice HO110.out; subst eo26; have p112 : 0 ≤ (x23_2 : Int) := of_decide_eq_true (by first | (with_reducible assumption) | assumption); have q112 : x23_2 < (y108.length : Int) := of_decide_eq_true (by first | (with_reducible assumption) | assumption); obtain ⟨ad112, e112, hx112_0, hx112_1, hx112_2, hx112_3⟩ := at_T50 (Kd.R_reads' HO110.out).2.2 x23_2 p112 q112; cases e112; replace p112 := eq_true p112; replace q112 := eq_true q112) | (go_at_call 26; (with_reducible refine (laws_past9.calls k3 ((rd_T50 y108 x23_2).f0) ((rd_T50 y108 x23_2).f1) ((rd_T50 y108 x23_2).f2) ((rd_T50 y108 x23_2).f3) false _ A20.out).mono ?_); rintro e w27 ⟨rfl, hb⟩; have n0_ := Aside0.mk (Kd.R_below (by (with_reducible repeat (first | apply Kd.R_alloc | apply Kd.R_drewN | apply Kd.R_drew)); exact HO110.out) hb); have n1_ := Aside0.mk (below_step (by repeat (first | (with_reducible first | exact HB.out | apply below_alloc | apply pw_below_drewN | apply below_drew1) | exact HB.out)) hb); clear HO110; clear HB; have HO110 := n0_; have HB := n1_; clear n0_ n1_; (try clear hb); (try clear hb2); (try clear hk); (try clear hi)))
                                  repeat (go_quiet (first | ((with_reducible refine gate_builtin (b := .append) (xs := #[.tmp 40, .tmp 46]) rfl ?_); (try (refine gate_guard (by rfl) ?_; dsimp only)); at_builtin; refine Kd.R_append k50 (w0 := w) w.heap.size rfl (.tmp 40) (.tmp 46) 48 50 (.agg #[(.int .i64 0), (.string ⟨#[]⟩), (.int .i64 0), (.bool false)]) 40 rfl Tryd.underlying48 info50 rfl (by decide) (by omega) u3 x3_2 (⟨1, rdOf ByteArray.empty l0 x23_2, 0, false⟩ : S50) [.int .i64 1, .string (rdOf ByteArray.empty l0 x23_2), .int .i64 0, .bool false] (fun _ => True) (fun _ => False) rfl rfl ?aP (fun _ hk => hk.elim) ?aF ?aO ?aB ?aS ?aL ?_; (case aP => exact k50_mkM _ _ _ (⟨1, rdOf ByteArray.empty l0 x23_2, 0, false⟩ : S50)); (case aB => exact (by repeat (first | (with_reducible first | exact HB.out | apply below_alloc | apply pw_below_drewN | apply below_drew1) | exact HB.out))); (case aF => exact (fun _ _ => trivial)); (case aO => exact (by (with_reducible repeat (first | apply Kd.R_alloc | apply Kd.R_drewN | apply Kd.R_drew)); exact HO_3.out)); (case aS => exact (below_size (by repeat (first | (with_reducible first | exact HB.out | apply below_alloc | apply pw_below_drewN | apply below_drew1) | exact HB.out)))); (case aL => have := LMc16.out; omega); intro v109 w25 ho hb hg hat; rw [← Ny108.out] at ho; have n0_ := Aside0.mk (hb); have n1_ := Aside0.mk (ho); clear HB; clear HO_3; have HB := n0_; have HO110 := n1_; clear n0_ n1_; clear ho hb hg hat; have p111 : 0 ≤ (x23_2 : Int) := of_decide_eq_true (by first | (with_reducible assumption) | assumption); have q111 : x23_2 < (l0.length : Int) := of_decide_eq_true (by first | (with_reducible assumption) | assumption); obtain ⟨ad111, e111, hx111_0⟩ := Kd.at_string HR0.out x23_2 p111 q111; obtain rfl : ad107 = ad111 := (by injection e111); replace hx111_0 := (HB.out.cell (World.block_lt_of_cell? w _ hx111_0)).trans hx111_0; replace p111 := eq_true p111; replace q111 := eq_true q111; obtain ⟨Ao26, co26, eo26⟩ := Kd.R_slice HO110.out; subst eo26; have p112 : 0 ≤ (x23_2 : Int) := of_decide_eq_true (by first | (with_reducible assumption) | assumption); have q112 : x23_2 < (y108.length : Int) := of_decide_eq_true (by first | (with_reducible assumption) | assumption); obtain ⟨ad112, e112, hx112_0, hx112_1, hx112_2, hx112_3⟩ := at_T50 (Kd.R_reads' HO110.out).2.2 x23_2 p112 q112; cases e112; replace p112 := eq_true p112; replace q112 := eq_true q112) | (go_at_call 26; (with_reducible refine (laws_past9.calls k3 ((rd_T50 y108 x23_2).f0) ((rd_T50 y108 x23_2).f1) ((rd_T50 y108 x23_2).f2) ((rd_T50 y108 x23_2).f3) false _ A20.out).mono ?_); rintro e w27 ⟨rfl, hb⟩; have n0_ := Aside0.mk (Kd.R_below (by (with_reducible repeat (first | apply Kd.R_alloc | apply Kd.R_drewN | apply Kd.R_drew)); exact HO110.out) hb); have n1_ := Aside0.mk (below_step (by repeat (first | (with_reducible first | exact HB.out | apply below_alloc | apply pw_below_drewN | apply below_drew1) | exact HB.out)) hb); clear HO110; clear HB; have HO110 := n0_; have HB := n1_; clear n0_ n1_; (try clear hb); (try clear hb2); (try clear hk); (try clear hi))); try go_wp2_with (first | ((with_reducible refine gate_builtin (b := .append) (xs := #[.tmp 40, .tmp 46]) rfl ?_); (try (refine gate_guard (by rfl) ?_; dsimp only)); at_builtin; refine Kd.R_append k50 (w0 := w) w.heap.size rfl (.tmp 40) (.tmp 46) 48 50 (.agg #[(.int .i64 0), (.string ⟨#[]⟩), (.int .i64 0), (.bool false)]) 40 rfl Tryd.underlying48 info50 rfl (by decide) (by omega) u3 x3_2 (⟨1, rdOf ByteArray.empty l0 x23_2, 0, false⟩ : S50) [.int .i64 1, .string (rdOf ByteArray.empty l0 x23_2), .int .i64 0, .bool false] (fun _ => True) (fun _ => False) rfl rfl ?aP (fun _ hk => hk.elim) ?aF ?aO ?aB ?aS ?aL ?_; (case aP => exact k50_mkM _ _ _ (⟨1, rdOf ByteArray.empty l0 x23_2, 0, false⟩ : S50)); (case aB => exact (by repeat (first | (with_reducible first | exact HB.out | apply below_alloc | apply pw_below_drewN | apply below_drew1) | exact HB.out))); (case aF => exact (fun _ _ => trivial)); (case aO => exact (by (with_reducible repeat (first | apply Kd.R_alloc | apply Kd.R_drewN | apply Kd.R_drew)); exact HO_3.out)); (case aS => exact (below_size (by repeat (first | (with_reducible first | exact HB.out | apply below_alloc | apply pw_below_drewN | apply below_drew1) | exact HB.out)))); (case aL => have := LMc16.out; omega); intro v109 w25 ho hb hg hat; rw [← Ny108.out] at ho; have n0_ := Aside0.mk (hb); have n1_ := Aside0.mk (ho); clear HB; clear HO_3; have HB := n0_; have HO110 := n1_; clear n0_ n1_; clear ho hb hg hat; have p111 : 0 ≤ (x23_2 : Int) := of_decide_eq_true (by first | (with_reducible assumption) | assumption); have q111 : x23_2 < (l0.length : Int) := of_decide_eq_true (by first | (with_reducible assumption) | assumption); obtain ⟨ad111, e111, hx111_0⟩ := Kd.at_string HR0.out x23_2 p111 q111; obtain rfl : ad107 = ad111 := (by injection e111); replace hx111_0 := (HB.out.cell (World.block_lt_of_cell? w _ hx111_0)).trans hx111_0; replace p111 := eq_true p111; replace q111 := eq_true q111; obtain ⟨Ao26, co26, eo26⟩ := Kd.R_slice HO110.out; subst eo26; have p112 : 0 ≤ (x23_2 : Int) := of_decide_eq_true (by first | (with_reducible assumption) | assumption); have q112 : x23_2 < (y108.length : Int) := of_decide_eq_true (by first | (with_reducible assumption) | assumption); obtain ⟨ad112, e112, hx112_0, hx112_1, hx112_2, hx112_3⟩ := at_T50 (Kd.R_reads' HO110.out).2.2 x23_2 p112 q112; cases e112; replace p112 := eq_true p112; replace q112 := eq_true q112) | (go_at_call 26; (with_reducible refine (laws_past9.calls k3 ((rd_T50 y108 x23_2).f0) ((rd_T50 y108 x23_2).f1) ((rd_T50 y108 x23_2).f2) ((rd_T50 y108 x23_2).f3) false _ A20.out).mono ?_); rintro e w27 ⟨rfl, hb⟩; have n0_ := Aside0.mk (Kd.R_below (by (with_reducible repeat (first | apply Kd.R_alloc | apply Kd.R_drewN | apply Kd.R_drew)); exact HO110.out) hb); have n1_ := Aside0.mk (below_step (by repeat (first | (with_reducible first | exact HB.out | apply below_alloc | apply pw_below_drewN | apply below_drew1) | exact HB.out)) hb); clear HO110; clear HB; have HO110 := n0_; have HB := n1_; clear n0_ n1_; (try clear hb); (try clear hb2); (try clear hk); (try clear hi))))
                                  go_ret
                                  exact ⟨by first | rfl | (simp [errW_none, errW_some] <;> rfl) | (simp [*, errW_none, errW_some] <;> rfl), by repeat (first | (with_reducible first | exact HB.out | apply below_alloc | apply pw_below_drewN | apply below_drew1) | exact HB.out)⟩
                              · rw [if_neg c19] at H
                                exact absurd H (by simp)
                          · rw [if_neg c16] at H
                            exact absurd H (by simp)
                        · rw [if_neg c15] at H
                          exact absurd H (by simp)
                      · rw [if_neg c14] at H
                        exact absurd H (by simp)
              · rw [if_neg c7] at H
                have c7b0 : decide (x23_2 < (l0.length : Int)) = false := decide_eq_false c7
                clear c7
                have H' := Aside0.mk H
                clear H
                go_wp2
                repeat (go_quiet (fail); try go_wp2)
                go_loopg [3, 65] k2 (fun kq v3 v65 w' => ∃ (x3_3 : List (S50)) (x65_3 : Int), v65 = .int .i64 x65_3 ∧ Aside0 (laws_FnPastsBack.l2 kq l0 x3_3 (l0.length : Int) (l0.length : Int) x65_3 = some r) ∧ Aside0 (kq ≤ k2) ∧ Aside0 (Kd.R k50 50 w' w.heap.size (fun _ => True) v3 x3_3) ∧ Aside0 (Below w.heap.size w w'))
                case atStart => exact ⟨(x3_2), (0), (by first | rfl | (simp; done) | (simp [*]; done)), H', ⟨Nat.le_refl _⟩, ⟨by (with_reducible repeat (first | apply Kd.R_alloc | apply Kd.R_drewN | apply Kd.R_drew)); exact HO_3.out⟩, ⟨by repeat (first | (with_reducible first | exact HB.out | apply below_alloc | apply pw_below_drewN | apply below_drew1) | exact HB.out)⟩⟩
                case round =>
                  clear H'
                  try clear c1
                  try clear p1
                  try clear q1
                  try clear hx1
                  try clear c2
                  try clear p2
                  try clear c3
                  try clear c5
                  try clear c5b0
                  try clear c5b1
                  try clear c5b2
                  try clear c6
                  try clear p6
                  try clear c7
                  try clear c7b0
                  try clear c8
                  try clear c8b0
                  try clear c9
                  try clear c9b0
                  try clear c10
                  try clear c10b0
                  try clear p10
                  try clear q10
                  try clear hx10
                  try clear c11
                  try clear c11b0
                  try clear p11
                  try clear q11
                  try clear hx11
                  try clear c12
                  try clear c12b0
                  try clear c13
                  try clear c13b0
                  try clear c13b1
                  try clear c14
                  try clear c14b0
                  try clear c15
                  try clear c15b0
                  try clear c16
                  try clear c17
                  try clear c17b0
                  try clear c17b1
                  try clear c19
                  try clear c19b0
                  try clear c21
                  try clear hx105_0
                  try clear hx106_0
                  try clear hx107_0
                  try clear hx111_0
                  try clear hx112_0
                  try clear hx112_1
                  try clear hx112_2
                  try clear hx112_3
                  try clear p105
                  try clear p106
                  try clear p107
                  try clear p111
                  try clear p112
                  try clear p2
                  try clear q105
                  try clear q106
                  try clear q107
                  try clear q111
                  try clear q112
                  obtain ⟨x3_3, x65_3, rfl, HA, HK3, HO_3, HB⟩ := hrel
                  cases gk with
                  | zero => exact absurd HA.out (by simp [laws_FnPastsBack.l2])
                  | succ k3 =>
                    have H := HA.out
                    clear HA
                    simp only [laws_FnPastsBack.l2] at H
                    by_cases c28 : x65_3 < (l0.length : Int)
                    · rw [if_pos c28] at H
                      have c28b0 : decide (x65_3 < (l0.length : Int)) = true := decide_eq_true c28
                      clear c28
                      by_cases c29 : x3_3.length < 3518437208883
                      · rw [if_pos c29] at H
                        have LMc29 := Aside0.mk c29
                        clear c29
                        obtain ⟨y114, hy114⟩ : ∃ y_ : List (S50), y_ = (x3_3 ++ [(⟨3, (⟨#[]⟩ : ByteArray), 0, false⟩ : S50)]) := ⟨_, rfl⟩
                        replace H : (laws_FnPastsBack.l2 k3 l0 y114 (l0.length : Int) (l0.length : Int) (wrap64 (x65_3 + 1))) = some r := by first | (rw [hy114]; with_reducible exact H) | (have H2_ := (Option.bind_some _ _).symm.trans H; rw [hy114]; with_reducible exact H2_) | (have H2_ := (Option.bind_some _ _).symm.trans H; with_reducible exact H2_) | with_reducible exact H | (rw [hy114]; exact H) | exact H
                        have Ny114 := Aside0.mk hy114
                        clear hy114
                        have H' := Aside0.mk H
                        clear H
                        go_wp2_with (first | ((with_reducible refine gate_builtin (b := .append) (xs := #[.tmp 67, .tmp 69]) rfl ?_); (try (refine gate_guard (by rfl) ?_; dsimp only)); at_builtin; refine Kd.R_append k50 (w0 := w) w.heap.size rfl (.tmp 67) (.tmp 69) 48 50 (.agg #[(.int .i64 0), (.string ⟨#[]⟩), (.int .i64 0), (.bool false)]) 40 rfl Tryd.underlying48 info50 rfl (by decide) (by omega) u3 x3_3 (⟨3, (⟨#[]⟩ : ByteArray), 0, false⟩ : S50) [.int .i64 3, .string (⟨#[]⟩ : ByteArray), .int .i64 0, .bool false] (fun _ => True) (fun _ => False) rfl rfl ?aP (fun _ hk => hk.elim) ?aF ?aO ?aB ?aS ?aL ?_; (case aP => exact k50_mkM _ _ _ (⟨3, (⟨#[]⟩ : ByteArray), 0, false⟩ : S50)); (case aB => exact (by repeat (first | (with_reducible first | exact HB.out | apply below_alloc | apply pw_below_drewN | apply below_drew1) | exact HB.out))); (case aF => exact (fun _ _ => trivial)); (case aO => exact (by (with_reducible repeat (first | apply Kd.R_alloc | apply Kd.R_drewN | apply Kd.R_drew)); exact HO_3.out)); (case aS => exact (below_size (by repeat (first | (with_reducible first | exact HB.out | apply below_alloc | apply pw_below_drewN | apply below_drew1) | exact HB.out)))); (case aL => have := LMc29.out; omega); intro v115 w30 ho hb hg hat; rw [← Ny114.out] at ho; have n0_ := Aside0.mk (hb); have n1_ := Aside0.mk (ho); clear HB; clear HO_3; have HB := n0_; have HO116 := n1_; clear n0_ n1_; clear ho hb hg hat))
                        repeat (go_quiet (first | ((with_reducible refine gate_builtin (b := .append) (xs := #[.tmp 67, .tmp 69]) rfl ?_); (try (refine gate_guard (by rfl) ?_; dsimp only)); at_builtin; refine Kd.R_append k50 (w0 := w) w.heap.size rfl (.tmp 67) (.tmp 69) 48 50 (.agg #[(.int .i64 0), (.string ⟨#[]⟩), (.int .i64 0), (.bool false)]) 40 rfl Tryd.underlying48 info50 rfl (by decide) (by omega) u3 x3_3 (⟨3, (⟨#[]⟩ : ByteArray), 0, false⟩ : S50) [.int .i64 3, .string (⟨#[]⟩ : ByteArray), .int .i64 0, .bool false] (fun _ => True) (fun _ => False) rfl rfl ?aP (fun _ hk => hk.elim) ?aF ?aO ?aB ?aS ?aL ?_; (case aP => exact k50_mkM _ _ _ (⟨3, (⟨#[]⟩ : ByteArray), 0, false⟩ : S50)); (case aB => exact (by repeat (first | (with_reducible first | exact HB.out | apply below_alloc | apply pw_below_drewN | apply below_drew1) | exact HB.out))); (case aF => exact (fun _ _ => trivial)); (case aO => exact (by (with_reducible repeat (first | apply Kd.R_alloc | apply Kd.R_drewN | apply Kd.R_drew)); exact HO_3.out)); (case aS => exact (below_size (by repeat (first | (with_reducible first | exact HB.out | apply below_alloc | apply pw_below_drewN | apply below_drew1) | exact HB.out)))); (case aL => have := LMc29.out; omega); intro v115 w30 ho hb hg hat; rw [← Ny114.out] at ho; have n0_ := Aside0.mk (hb); have n1_ := Aside0.mk (ho); clear HB; clear HO_3; have HB := n0_; have HO116 := n1_; clear n0_ n1_; clear ho hb hg hat)); try go_wp2_with (first | ((with_reducible refine gate_builtin (b := .append) (xs := #[.tmp 67, .tmp 69]) rfl ?_); (try (refine gate_guard (by rfl) ?_; dsimp only)); at_builtin; refine Kd.R_append k50 (w0 := w) w.heap.size rfl (.tmp 67) (.tmp 69) 48 50 (.agg #[(.int .i64 0), (.string ⟨#[]⟩), (.int .i64 0), (.bool false)]) 40 rfl Tryd.underlying48 info50 rfl (by decide) (by omega) u3 x3_3 (⟨3, (⟨#[]⟩ : ByteArray), 0, false⟩ : S50) [.int .i64 3, .string (⟨#[]⟩ : ByteArray), .int .i64 0, .bool false] (fun _ => True) (fun _ => False) rfl rfl ?aP (fun _ hk => hk.elim) ?aF ?aO ?aB ?aS ?aL ?_; (case aP => exact k50_mkM _ _ _ (⟨3, (⟨#[]⟩ : ByteArray), 0, false⟩ : S50)); (case aB => exact (by repeat (first | (with_reducible first | exact HB.out | apply below_alloc | apply pw_below_drewN | apply below_drew1) | exact HB.out))); (case aF => exact (fun _ _ => trivial)); (case aO => exact (by (with_reducible repeat (first | apply Kd.R_alloc | apply Kd.R_drewN | apply Kd.R_drew)); exact HO_3.out)); (case aS => exact (below_size (by repeat (first | (with_reducible first | exact HB.out | apply below_alloc | apply pw_below_drewN | apply below_drew1) | exact HB.out)))); (case aL => have := LMc29.out; omega); intro v115 w30 ho hb hg hat; rw [← Ny114.out] at ho; have n0_ := Aside0.mk (hb); have n1_ := Aside0.mk (ho); clear HB; clear HO_3; have HB := n0_; have HO116 := n1_; clear n0_ n1_; clear ho hb hg hat)))
                        go_roundg k3
                        case measure => have := HJ3.out; have := HK2.out; have := HK3.out; omega
                        case rel => exact ⟨(y114), (wrap64 (x65_3 + 1)), (by first | rfl | (simp; done) | (simp [*]; done)), H', ⟨by have := HJ3.out; have := HK2.out; have := HK3.out; omega⟩, ⟨by (with_reducible repeat (first | apply Kd.R_alloc | apply Kd.R_drewN | apply Kd.R_drew)); exact HO116.out⟩, ⟨by repeat (first | (with_reducible first | exact HB.out | apply below_alloc | apply pw_below_drewN | apply below_drew1) | exact HB.out)⟩⟩
                      · rw [if_neg c29] at H
                        exact absurd H (by simp)
                    · rw [if_neg c28] at H
                      have c28b0 : decide (x65_3 < (l0.length : Int)) = false := decide_eq_false c28
                      clear c28
                      have H' := Aside0.mk H
                      clear H
                      go_wp2
                      repeat (go_quiet (fail); try go_wp2)
                      go_loopg [3, 74] k3 (fun kq v3 v74 w' => ∃ (x3_4 : List (S50)) (x74_4 : Int), v74 = .int .i64 x74_4 ∧ Aside0 (laws_FnPastsBack.l3 kq l0 x3_4 (l0.length : Int) (wrap64 ((l0.length : Int) - 1)) x74_4 = some r) ∧ Aside0 (kq ≤ k3) ∧ Aside0 (Kd.R k50 50 w' w.heap.size (fun _ => True) v3 x3_4) ∧ Aside0 (Below w.heap.size w w'))
                      case atStart => exact ⟨(x3_3), (0), (by first | rfl | (simp; done) | (simp [*]; done)), H', ⟨Nat.le_refl _⟩, ⟨by (with_reducible repeat (first | apply Kd.R_alloc | apply Kd.R_drewN | apply Kd.R_drew)); exact HO_3.out⟩, ⟨by repeat (first | (with_reducible first | exact HB.out | apply below_alloc | apply pw_below_drewN | apply below_drew1) | exact HB.out)⟩⟩
                      case round =>
                        clear H'
                        try clear c1
                        try clear p1
                        try clear q1
                        try clear hx1
                        try clear c2
                        try clear p2
                        try clear c3
                        try clear c5
                        try clear c5b0
                        try clear c5b1
                        try clear c5b2
                        try clear c6
                        try clear p6
                        try clear c7
                        try clear c7b0
                        try clear c8
                        try clear c8b0
                        try clear c9
                        try clear c9b0
                        try clear c10
                        try clear c10b0
                        try clear p10
                        try clear q10
                        try clear hx10
                        try clear c11
                        try clear c11b0
                        try clear p11
                        try clear q11
                        try clear hx11
                        try clear c12
                        try clear c12b0
                        try clear c13
                        try clear c13b0
                        try clear c13b1
                        try clear c14
                        try clear c14b0
                        try clear c15
                        try clear c15b0
                        try clear c16
                        try clear c17
                        try clear c17b0
                        try clear c17b1
                        try clear c19
                        try clear c19b0
                        try clear c21
                        try clear c28
                        try clear c28b0
                        try clear c29
                        try clear hx105_0
                        try clear hx106_0
                        try clear hx107_0
                        try clear hx111_0
                        try clear hx112_0
                        try clear hx112_1
                        try clear hx112_2
                        try clear hx112_3
                        try clear p1
                        try clear p10
                        try clear p105
                        try clear p106
                        try clear p107
                        try clear p11
                        try clear p111
                        try clear p112
                        try clear p2
                        try clear p6
                        try clear q1
                        try clear q10
                        try clear q105
                        try clear q106
                        try clear q107
                        try clear q11
                        try clear q111
                        try clear q112
                        obtain ⟨x3_4, x74_4, rfl, HA, HK4, HO_3, HB⟩ := hrel
                        cases gk with
                        | zero => exact absurd HA.out (by simp [laws_FnPastsBack.l3])
                        | succ k4 =>
                          have H := HA.out
                          clear HA
                          simp only [laws_FnPastsBack.l3] at H
                          by_cases c31 : x74_4 < (wrap64 ((l0.length : Int) - 1))
                          · rw [if_pos c31] at H
                            have c31b0 : decide (x74_4 < (wrap64 ((l0.length : Int) - 1))) = true := decide_eq_true c31
                            clear c31
                            by_cases c32 : x3_4.length < 3518437208883
                            · rw [if_pos c32] at H
                              have LMc32 := Aside0.mk c32
                              clear c32
                              obtain ⟨y117, hy117⟩ : ∃ y_ : List (S50), y_ = (x3_4 ++ [(⟨4, (⟨#[]⟩ : ByteArray), 0, false⟩ : S50)]) := ⟨_, rfl⟩
                              replace H : (laws_FnPastsBack.l3 k4 l0 y117 (l0.length : Int) (wrap64 ((l0.length : Int) - 1)) (wrap64 (x74_4 + 1))) = some r := by first | (rw [hy117]; with_reducible exact H) | (have H2_ := (Option.bind_some _ _).symm.trans H; rw [hy117]; with_reducible exact H2_) | (have H2_ := (Option.bind_some _ _).symm.trans H; with_reducible exact H2_) | with_reducible exact H | (rw [hy117]; exact H) | exact H
                              have Ny117 := Aside0.mk hy117
                              clear hy117
                              have H' := Aside0.mk H
                              clear H
                              go_wp2_with (first | ((with_reducible refine gate_builtin (b := .append) (xs := #[.tmp 76, .tmp 78]) rfl ?_); (try (refine gate_guard (by rfl) ?_; dsimp only)); at_builtin; refine Kd.R_append k50 (w0 := w) w.heap.size rfl (.tmp 76) (.tmp 78) 48 50 (.agg #[(.int .i64 0), (.string ⟨#[]⟩), (.int .i64 0), (.bool false)]) 40 rfl Tryd.underlying48 info50 rfl (by decide) (by omega) u3 x3_4 (⟨4, (⟨#[]⟩ : ByteArray), 0, false⟩ : S50) [.int .i64 4, .string (⟨#[]⟩ : ByteArray), .int .i64 0, .bool false] (fun _ => True) (fun _ => False) rfl rfl ?aP (fun _ hk => hk.elim) ?aF ?aO ?aB ?aS ?aL ?_; (case aP => exact k50_mkM _ _ _ (⟨4, (⟨#[]⟩ : ByteArray), 0, false⟩ : S50)); (case aB => exact (by repeat (first | (with_reducible first | exact HB.out | apply below_alloc | apply pw_below_drewN | apply below_drew1) | exact HB.out))); (case aF => exact (fun _ _ => trivial)); (case aO => exact (by (with_reducible repeat (first | apply Kd.R_alloc | apply Kd.R_drewN | apply Kd.R_drew)); exact HO_3.out)); (case aS => exact (below_size (by repeat (first | (with_reducible first | exact HB.out | apply below_alloc | apply pw_below_drewN | apply below_drew1) | exact HB.out)))); (case aL => have := LMc32.out; omega); intro v118 w33 ho hb hg hat; rw [← Ny117.out] at ho; have n0_ := Aside0.mk (hb); have n1_ := Aside0.mk (ho); clear HB; clear HO_3; have HB := n0_; have HO119 := n1_; clear n0_ n1_; clear ho hb hg hat))
                              repeat (go_quiet (first | ((with_reducible refine gate_builtin (b := .append) (xs := #[.tmp 76, .tmp 78]) rfl ?_); (try (refine gate_guard (by rfl) ?_; dsimp only)); at_builtin; refine Kd.R_append k50 (w0 := w) w.heap.size rfl (.tmp 76) (.tmp 78) 48 50 (.agg #[(.int .i64 0), (.string ⟨#[]⟩), (.int .i64 0), (.bool false)]) 40 rfl Tryd.underlying48 info50 rfl (by decide) (by omega) u3 x3_4 (⟨4, (⟨#[]⟩ : ByteArray), 0, false⟩ : S50) [.int .i64 4, .string (⟨#[]⟩ : ByteArray), .int .i64 0, .bool false] (fun _ => True) (fun _ => False) rfl rfl ?aP (fun _ hk => hk.elim) ?aF ?aO ?aB ?aS ?aL ?_; (case aP => exact k50_mkM _ _ _ (⟨4, (⟨#[]⟩ : ByteArray), 0, false⟩ : S50)); (case aB => exact (by repeat (first | (with_reducible first | exact HB.out | apply below_alloc | apply pw_below_drewN | apply below_drew1) | exact HB.out))); (case aF => exact (fun _ _ => trivial)); (case aO => exact (by (with_reducible repeat (first | apply Kd.R_alloc | apply Kd.R_drewN | apply Kd.R_drew)); exact HO_3.out)); (case aS => exact (below_size (by repeat (first | (with_reducible first | exact HB.out | apply below_alloc | apply pw_below_drewN | apply below_drew1) | exact HB.out)))); (case aL => have := LMc32.out; omega); intro v118 w33 ho hb hg hat; rw [← Ny117.out] at ho; have n0_ := Aside0.mk (hb); have n1_ := Aside0.mk (ho); clear HB; clear HO_3; have HB := n0_; have HO119 := n1_; clear n0_ n1_; clear ho hb hg hat)); try go_wp2_with (first | ((with_reducible refine gate_builtin (b := .append) (xs := #[.tmp 76, .tmp 78]) rfl ?_); (try (refine gate_guard (by rfl) ?_; dsimp only)); at_builtin; refine Kd.R_append k50 (w0 := w) w.heap.size rfl (.tmp 76) (.tmp 78) 48 50 (.agg #[(.int .i64 0), (.string ⟨#[]⟩), (.int .i64 0), (.bool false)]) 40 rfl Tryd.underlying48 info50 rfl (by decide) (by omega) u3 x3_4 (⟨4, (⟨#[]⟩ : ByteArray), 0, false⟩ : S50) [.int .i64 4, .string (⟨#[]⟩ : ByteArray), .int .i64 0, .bool false] (fun _ => True) (fun _ => False) rfl rfl ?aP (fun _ hk => hk.elim) ?aF ?aO ?aB ?aS ?aL ?_; (case aP => exact k50_mkM _ _ _ (⟨4, (⟨#[]⟩ : ByteArray), 0, false⟩ : S50)); (case aB => exact (by repeat (first | (with_reducible first | exact HB.out | apply below_alloc | apply pw_below_drewN | apply below_drew1) | exact HB.out))); (case aF => exact (fun _ _ => trivial)); (case aO => exact (by (with_reducible repeat (first | apply Kd.R_alloc | apply Kd.R_drewN | apply Kd.R_drew)); exact HO_3.out)); (case aS => exact (below_size (by repeat (first | (with_reducible first | exact HB.out | apply below_alloc | apply pw_below_drewN | apply below_drew1) | exact HB.out)))); (case aL => have := LMc32.out; omega); intro v118 w33 ho hb hg hat; rw [← Ny117.out] at ho; have n0_ := Aside0.mk (hb); have n1_ := Aside0.mk (ho); clear HB; clear HO_3; have HB := n0_; have HO119 := n1_; clear n0_ n1_; clear ho hb hg hat)))
                              go_roundg k4
                              case measure => have := HJ3.out; have := HK2.out; have := HK3.out; have := HK4.out; omega
                              case rel => exact ⟨(y117), (wrap64 (x74_4 + 1)), (by first | rfl | (simp; done) | (simp [*]; done)), H', ⟨by have := HJ3.out; have := HK2.out; have := HK3.out; have := HK4.out; omega⟩, ⟨by (with_reducible repeat (first | apply Kd.R_alloc | apply Kd.R_drewN | apply Kd.R_drew)); exact HO119.out⟩, ⟨by repeat (first | (with_reducible first | exact HB.out | apply below_alloc | apply pw_below_drewN | apply below_drew1) | exact HB.out)⟩⟩
                            · rw [if_neg c32] at H
                              exact absurd H (by simp)
                          · rw [if_neg c31] at H
                            have c31b0 : decide (x74_4 < (wrap64 ((l0.length : Int) - 1))) = false := decide_eq_false c31
                            clear c31
                            replace H := Option.bind_eq_some_iff.mp H
                            obtain ⟨⟨t120, t121⟩, A340, H⟩ := H
                            replace H : (if t121 = true then (laws_FnPastsBack.j5 k4 l0 (l0.length : Int) t120 ((t120.length : Int) != (x3_4.length : Int))) else (laws_FnPastsBack.j5 k4 l0 (l0.length : Int) t120 true)) = some r := H
                            have A34 := Aside0.mk A340
                            clear A340
                            have HC35 := Aside0.mk H
                            clear H
                            obtain ⟨Ao36, co36, eo36⟩ := Kd.R_slice HO_3.out
                            subst eo36
                            go_upto_region 29 with (first | (go_at_call 27; (with_reducible refine (impl_Pasts.calls _ _ x3_4 1000 false t120 t121 _ ?side1 ?side2 A34.out).mono ?_); (case side1 => repeat (first | exact (Kd.R_reads' HO_3.out).2.2 | (with_reducible refine Kd.C_alloc ?_ _) | (with_reducible refine Kd.C_drewN ?_ _) | (with_reducible refine Kd.C_drew ?_))); (case side2 => exact (Kd.R_reads' HO_3.out).2.1); rintro e w37 ⟨v122, rfl, ho0, hb⟩; have n0_ := Aside0.mk (Kd.R_below (by (with_reducible repeat (first | apply Kd.R_alloc | apply Kd.R_drewN | apply Kd.R_drew)); exact HO_3.out) hb); have n1_ := Aside0.mk (Kd.R_lower ho0 (below_size (by repeat (first | (with_reducible first | exact HB.out | apply below_alloc | apply pw_below_drewN | apply below_drew1) | exact HB.out)))); have n2_ := Aside0.mk (below_step (by repeat (first | (with_reducible first | exact HB.out | apply below_alloc | apply pw_below_drewN | apply below_drew1) | exact HB.out)) hb); clear HO_3; clear HB; have HO_3 := n0_; have HO123 := n1_; have HB := n2_; clear n0_ n1_ n2_; (try clear hb); (try clear hb2); (try clear hk); (try clear hi); (try clear ho0)))
                            repeat (go_quiet (first | (go_at_call 27; (with_reducible refine (impl_Pasts.calls _ _ x3_4 1000 false t120 t121 _ ?side1 ?side2 A34.out).mono ?_); (case side1 => repeat (first | exact (Kd.R_reads' HO_3.out).2.2 | (with_reducible refine Kd.C_alloc ?_ _) | (with_reducible refine Kd.C_drewN ?_ _) | (with_reducible refine Kd.C_drew ?_))); (case side2 => exact (Kd.R_reads' HO_3.out).2.1); rintro e w37 ⟨v122, rfl, ho0, hb⟩; have n0_ := Aside0.mk (Kd.R_below (by (with_reducible repeat (first | apply Kd.R_alloc | apply Kd.R_drewN | apply Kd.R_drew)); exact HO_3.out) hb); have n1_ := Aside0.mk (Kd.R_lower ho0 (below_size (by repeat (first | (with_reducible first | exact HB.out | apply below_alloc | apply pw_below_drewN | apply below_drew1) | exact HB.out)))); have n2_ := Aside0.mk (below_step (by repeat (first | (with_reducible first | exact HB.out | apply below_alloc | apply pw_below_drewN | apply below_drew1) | exact HB.out)) hb); clear HO_3; clear HB; have HO_3 := n0_; have HO123 := n1_; have HB := n2_; clear n0_ n1_ n2_; (try clear hb); (try clear hb2); (try clear hk); (try clear hi); (try clear ho0))); go_upto_region 29 with (first | (go_at_call 27; (with_reducible refine (impl_Pasts.calls _ _ x3_4 1000 false t120 t121 _ ?side1 ?side2 A34.out).mono ?_); (case side1 => repeat (first | exact (Kd.R_reads' HO_3.out).2.2 | (with_reducible refine Kd.C_alloc ?_ _) | (with_reducible refine Kd.C_drewN ?_ _) | (with_reducible refine Kd.C_drew ?_))); (case side2 => exact (Kd.R_reads' HO_3.out).2.1); rintro e w37 ⟨v122, rfl, ho0, hb⟩; have n0_ := Aside0.mk (Kd.R_below (by (with_reducible repeat (first | apply Kd.R_alloc | apply Kd.R_drewN | apply Kd.R_drew)); exact HO_3.out) hb); have n1_ := Aside0.mk (Kd.R_lower ho0 (below_size (by repeat (first | (with_reducible first | exact HB.out | apply below_alloc | apply pw_below_drewN | apply below_drew1) | exact HB.out)))); have n2_ := Aside0.mk (below_step (by repeat (first | (with_reducible first | exact HB.out | apply below_alloc | apply pw_below_drewN | apply below_drew1) | exact HB.out)) hb); clear HO_3; clear HB; have HO_3 := n0_; have HO123 := n1_; have HB := n2_; clear n0_ n1_ n2_; (try clear hb); (try clear hb2); (try clear hk); (try clear hi); (try clear ho0))))
                            (try simp only [Act.put, List.setIfInBounds_toArray, List.set_cons_zero, List.set_cons_succ])
                            go_cut [94] (fun v94 wc => ∃ (kq : Nat) (x94_34 : Bool), v94 = .bool x94_34 ∧ Aside0 (laws_FnPastsBack.j5 kq l0 (l0.length : Int) t120 x94_34 = some r) ∧ Aside0 (kq ≤ k4) ∧ Aside0 (Kd.R k56 56 wc w.heap.size (fun _ => True) v122 t120) ∧ Aside0 (Below w.heap.size w wc))
                            case first =>
                              have H := HC35.out
                              clear HC35
                              by_cases c38 : t121 = true
                              · subst c38
                                have H1 : (laws_FnPastsBack.j5 k4 l0 (l0.length : Int) t120 ((t120.length : Int) != (x3_4.length : Int))) = some r := by rw [if_pos rfl] at H; exact H
                                clear H
                                have H := H1
                                clear H1
                                have H' := Aside0.mk H
                                clear H
                                obtain ⟨Ao39, co39, eo39⟩ := Kd.R_slice HO123.out
                                subst eo39
                                go_wp2
                                repeat (go_quiet (fail); try go_wp2)
                                go_meet
                                case rel => exact ⟨_, (((t120.length : Int) != (x3_4.length : Int))), (by first | rfl | (simp; done) | (simp [*]; done)), H', ⟨by have := HJ3.out; have := HK2.out; have := HK3.out; have := HK4.out; first | omega | exact Nat.le_refl _⟩, ⟨by (with_reducible repeat (first | apply Kd.R_alloc | apply Kd.R_drewN | apply Kd.R_drew)); exact HO123.out⟩, ⟨by repeat (first | (with_reducible first | exact HB.out | apply below_alloc | apply pw_below_drewN | apply below_drew1) | exact HB.out)⟩⟩
                              · replace c38 := Bool.eq_false_iff.mpr c38
                                subst c38
                                have H1 : (laws_FnPastsBack.j5 k4 l0 (l0.length : Int) t120 true) = some r := by rw [if_neg (show ¬ (false = true) by decide)] at H; exact H
                                clear H
                                have H := H1
                                clear H1
                                have H' := Aside0.mk H
                                clear H
                                go_wp2
                                repeat (go_quiet (fail); try go_wp2)
                                go_meet
                                case rel => exact ⟨_, (true), (by first | rfl | (simp; done) | (simp [*]; done)), H', ⟨by have := HJ3.out; have := HK2.out; have := HK3.out; have := HK4.out; first | omega | exact Nat.le_refl _⟩, ⟨by (with_reducible repeat (first | apply Kd.R_alloc | apply Kd.R_drewN | apply Kd.R_drew)); exact HO123.out⟩, ⟨by repeat (first | (with_reducible first | exact HB.out | apply below_alloc | apply pw_below_drewN | apply below_drew1) | exact HB.out)⟩⟩
                            case rest =>
                              clear HC35
                              try clear c1
                              try clear p1
                              try clear q1
                              try clear hx1
                              try clear c2
                              try clear p2
                              try clear c3
                              try clear c5
                              try clear c5b0
                              try clear c5b1
                              try clear c5b2
                              try clear c6
                              try clear p6
                              try clear c7
                              try clear c7b0
                              try clear c8
                              try clear c8b0
                              try clear c9
                              try clear c9b0
                              try clear c10
                              try clear c10b0
                              try clear p10
                              try clear q10
                              try clear hx10
                              try clear c11
                              try clear c11b0
                              try clear p11
                              try clear q11
                              try clear hx11
                              try clear c12
                              try clear c12b0
                              try clear c13
                              try clear c13b0
                              try clear c13b1
                              try clear c14
                              try clear c14b0
                              try clear c15
                              try clear c15b0
                              try clear c16
                              try clear c17
                              try clear c17b0
                              try clear c17b1
                              try clear c19
                              try clear c19b0
                              try clear c21
                              try clear c28
                              try clear c28b0
                              try clear c29
                              try clear c31
                              try clear c31b0
                              try clear c32
                              try clear c38
                              try clear hx105_0
                              try clear hx106_0
                              try clear hx107_0
                              try clear hx111_0
                              try clear hx112_0
                              try clear hx112_1
                              try clear hx112_2
                              try clear hx112_3
                              try clear p1
                              try clear p10
                              try clear p105
                              try clear p106
                              try clear p107
                              try clear p11
                              try clear p111
                              try clear p112
                              try clear p2
                              try clear p6
                              try clear q1
                              try clear q10
                              try clear q105
                              try clear q106
                              try clear q107
                              try clear q11
                              try clear q111
                              try clear q112
                              obtain ⟨kq, x94_34, rfl, HA, HJ34, HO_7, HB⟩ := hcut
                              cases kq with
                              | zero => exact absurd HA.out (by simp [laws_FnPastsBack.j5])
                              | succ kj34 =>
                                have H := HA.out
                                clear HA
                                simp only [laws_FnPastsBack.j5] at H
                                by_cases c40 : x94_34 = true
                                · subst c40
                                  have H1 : (some false) = some r := by rw [if_pos rfl] at H; exact H
                                  clear H
                                  have H := H1
                                  clear H1
                                  obtain rfl := Option.some.inj H
                                  go_wp2
                                  repeat (go_quiet (fail); try go_wp2)
                                  go_ret
                                  exact ⟨by first | rfl | (simp [errW_none, errW_some] <;> rfl) | (simp [*, errW_none, errW_some] <;> rfl), by repeat (first | (with_reducible first | exact HB.out | apply below_alloc | apply pw_below_drewN | apply below_drew1) | exact HB.out)⟩
                                · replace c40 := Bool.eq_false_iff.mpr c40
                                  subst c40
                                  have H1 : (laws_FnPastsBack.l4 kj34 l0 (l0.length : Int) t120 (l0.length : Int) 0) = some r := by rw [if_neg (show ¬ (false = true) by decide)] at H; exact H
                                  clear H
                                  have H := H1
                                  clear H1
                                  have H' := Aside0.mk H
                                  clear H
                                  go_wp2
                                  repeat (go_quiet (fail); try go_wp2)
                                  go_loopg [96] kj34 (fun kq v96 w' => ∃ (x96_6 : Int), v96 = .int .i64 x96_6 ∧ Aside0 (laws_FnPastsBack.l4 kq l0 (l0.length : Int) t120 (l0.length : Int) x96_6 = some r) ∧ Aside0 (kq ≤ kj34) ∧ Aside0 (Kd.R k56 56 w' w.heap.size (fun _ => True) v122 t120) ∧ Aside0 (Below w.heap.size w w'))
                                  case atStart => exact ⟨(0), (by first | rfl | (simp; done) | (simp [*]; done)), H', ⟨Nat.le_refl _⟩, ⟨by (with_reducible repeat (first | apply Kd.R_alloc | apply Kd.R_drewN | apply Kd.R_drew)); exact HO_7.out⟩, ⟨by repeat (first | (with_reducible first | exact HB.out | apply below_alloc | apply pw_below_drewN | apply below_drew1) | exact HB.out)⟩⟩
                                  case round =>
                                    clear H'
                                    try clear c1
                                    try clear p1
                                    try clear q1
                                    try clear hx1
                                    try clear c2
                                    try clear p2
                                    try clear c3
                                    try clear c4
                                    try clear c5
                                    try clear c5b0
                                    try clear c5b1
                                    try clear c5b2
                                    try clear c6
                                    try clear p6
                                    try clear c7
                                    try clear c7b0
                                    try clear c8
                                    try clear c8b0
                                    try clear c9
                                    try clear c9b0
                                    try clear c10
                                    try clear c10b0
                                    try clear p10
                                    try clear q10
                                    try clear hx10
                                    try clear c11
                                    try clear c11b0
                                    try clear p11
                                    try clear q11
                                    try clear hx11
                                    try clear c12
                                    try clear c12b0
                                    try clear c13
                                    try clear c13b0
                                    try clear c13b1
                                    try clear c14
                                    try clear c14b0
                                    try clear c15
                                    try clear c15b0
                                    try clear c16
                                    try clear c17
                                    try clear c17b0
                                    try clear c17b1
                                    try clear c19
                                    try clear c19b0
                                    try clear c21
                                    try clear c28
                                    try clear c28b0
                                    try clear c29
                                    try clear c31
                                    try clear c31b0
                                    try clear c32
                                    try clear c38
                                    try clear c40
                                    try clear hx105_0
                                    try clear hx106_0
                                    try clear hx107_0
                                    try clear hx111_0
                                    try clear hx112_0
                                    try clear hx112_1
                                    try clear hx112_2
                                    try clear hx112_3
                                    try clear p1
                                    try clear p10
                                    try clear p105
                                    try clear p106
                                    try clear p107
                                    try clear p11
                                    try clear p111
                                    try clear p112
                                    try clear p2
                                    try clear p6
                                    try clear q1
                                    try clear q10
                                    try clear q105
                                    try clear q106
                                    try clear q107
                                    try clear q11
                                    try clear q111
                                    try clear q112
                                    obtain ⟨x96_6, rfl, HA, HK6, HO_7, HB⟩ := hrel
                                    cases gk with
                                    | zero => exact absurd HA.out (by simp [laws_FnPastsBack.l4])
                                    | succ k6 =>
                                      have H := HA.out
                                      clear HA
                                      simp only [laws_FnPastsBack.l4] at H
                                      by_cases c41 : x96_6 < (l0.length : Int)
                                      · rw [if_pos c41] at H
                                        have c41b0 : decide (x96_6 < (l0.length : Int)) = true := decide_eq_true c41
                                        clear c41
                                        obtain ⟨ji42, hji42⟩ : ∃ j_ : Int, (wrap64 ((l0.length : Int) + x96_6)) = j_ := ⟨_, rfl⟩
                                        replace H : (if 0 ≤ (ji42) then (if (ji42) < (t120.length : Int) then (if 0 ≤ (wrap64 ((wrap64 ((l0.length : Int) - 1)) - x96_6)) then (if (wrap64 ((wrap64 ((l0.length : Int) - 1)) - x96_6)) < (l0.length : Int) then (if (!((((rd_T56 t120 (ji42)).f0).toList) == ((rdOf ByteArray.empty l0 (wrap64 ((wrap64 ((l0.length : Int) - 1)) - x96_6))).toList)) || (!(((rd_T56 t120 (ji42)).f1) == 1))) = true then (some false) else (if x96_6 > 0 then (if 0 ≤ (wrap64 ((wrap64 ((wrap64 (2 * (l0.length : Int))) + x96_6)) - 1)) then (if (wrap64 ((wrap64 ((wrap64 (2 * (l0.length : Int))) + x96_6)) - 1)) < (t120.length : Int) then (if 0 ≤ x96_6 then (if x96_6 < (l0.length : Int) then (if (!((((rd_T56 t120 (wrap64 ((wrap64 ((wrap64 (2 * (l0.length : Int))) + x96_6)) - 1))).f0).toList) == ((rdOf ByteArray.empty l0 x96_6).toList)) || (!(((rd_T56 t120 (wrap64 ((wrap64 ((wrap64 (2 * (l0.length : Int))) + x96_6)) - 1))).f1) == 1))) = true then (some false) else (laws_FnPastsBack.l4 k6 l0 (l0.length : Int) t120 (l0.length : Int) (wrap64 (x96_6 + 1)))) else (none)) else (none)) else (none)) else (none)) else (laws_FnPastsBack.l4 k6 l0 (l0.length : Int) t120 (l0.length : Int) (wrap64 (x96_6 + 1))))) else (none)) else (none)) else (none)) else (none)) = some r := by first | (rw [hji42] at H; exact H) | (simp only [hji42] at H ⊢; exact H)
                                        have hji42w : (IntKind.i64.wrap ((l0.length : Int) + x96_6)) = ji42 := (i64_w _).trans hji42
                                        by_cases c43 : 0 ≤ (ji42)
                                        · rw [if_pos c43] at H
                                          have c43b0 : decide (0 ≤ (ji42)) = true := decide_eq_true c43
                                          clear c43
                                          by_cases c44 : (ji42) < (t120.length : Int)
                                          · rw [if_pos c44] at H
                                            have c44b0 : decide ((ji42) < (t120.length : Int)) = true := decide_eq_true c44
                                            clear c44
                                            obtain ⟨ji45, hji45⟩ : ∃ j_ : Int, (wrap64 ((wrap64 ((l0.length : Int) - 1)) - x96_6)) = j_ := ⟨_, rfl⟩
                                            replace H : (if 0 ≤ (ji45) then (if (ji45) < (l0.length : Int) then (if (!((((rd_T56 t120 (ji42)).f0).toList) == ((rdOf ByteArray.empty l0 (ji45)).toList)) || (!(((rd_T56 t120 (ji42)).f1) == 1))) = true then (some false) else (if x96_6 > 0 then (if 0 ≤ (wrap64 ((wrap64 ((wrap64 (2 * (l0.length : Int))) + x96_6)) - 1)) then (if (wrap64 ((wrap64 ((wrap64 (2 * (l0.length : Int))) + x96_6)) - 1)) < (t120.length : Int) then (if 0 ≤ x96_6 then (if x96_6 < (l0.length : Int) then (if (!((((rd_T56 t120 (wrap64 ((wrap64 ((wrap64 (2 * (l0.length : Int))) + x96_6)) - 1))).f0).toList) == ((rdOf ByteArray.empty l0 x96_6).toList)) || (!(((rd_T56 t120 (wrap64 ((wrap64 ((wrap64 (2 * (l0.length : Int))) + x96_6)) - 1))).f1) == 1))) = true then (some false) else (laws_FnPastsBack.l4 k6 l0 (l0.length : Int) t120 (l0.length : Int) (wrap64 (x96_6 + 1)))) else (none)) else (none)) else (none)) else (none)) else (laws_FnPastsBack.l4 k6 l0 (l0.length : Int) t120 (l0.length : Int) (wrap64 (x96_6 + 1))))) else (none)) else (none)) = some r := by first | (rw [hji45] at H; exact H) | (simp only [hji45] at H ⊢; exact H)
                                            have hji45w : (IntKind.i64.wrap ((wrap64 ((l0.length : Int) - 1)) - x96_6)) = ji45 := (i64_w _).trans hji45
                                            by_cases c46 : 0 ≤ (ji45)
                                            · rw [if_pos c46] at H
                                              have c46b0 : decide (0 ≤ (ji45)) = true := decide_eq_true c46
                                              clear c46
                                              by_cases c47 : (ji45) < (l0.length : Int)
                                              · rw [if_pos c47] at H
                                                have c47b0 : decide ((ji45) < (l0.length : Int)) = true := decide_eq_true c47
                                                clear c47
                                                by_cases c48 : (!((((rd_T56 t120 (ji42)).f0).toList) == ((rdOf ByteArray.empty l0 (ji45)).toList)) || (!(((rd_T56 t120 (ji42)).f1) == 1))) = true
                                                · rw [if_pos c48] at H
                                                  have c48b0 : (!((((rd_T56 t120 (ji42)).f0).toList) == ((rdOf ByteArray.empty l0 (ji45)).toList)) || (!(((rd_T56 t120 (ji42)).f1) == 1))) = true := c48
                                                  clear c48
                                                  obtain rfl := Option.some.inj H
                                                  obtain ⟨Ao49, co49, eo49⟩ := Kd.R_slice HO_7.out
                                                  subst eo49
                                                  have p124 : 0 ≤ ((ji42) : Int) := of_decide_eq_true (by first | (with_reducible assumption) | assumption)
                                                  have q124 : (ji42) < (t120.length : Int) := of_decide_eq_true (by first | (with_reducible assumption) | assumption)
                                                  obtain ⟨ad124, e124, hx124_0, hx124_1⟩ := at_T56 (Kd.R_reads' HO_7.out).2.2 (ji42) p124 q124
                                                  cases e124
                                                  replace p124 := eq_true p124
                                                  replace q124 := eq_true q124
                                                  have p125 : 0 ≤ ((ji45) : Int) := of_decide_eq_true (by first | (with_reducible assumption) | assumption)
                                                  have q125 : (ji45) < (l0.length : Int) := of_decide_eq_true (by first | (with_reducible assumption) | assumption)
                                                  obtain ⟨ad125, e125, hx125_0⟩ := Kd.at_string HR0.out (ji45) p125 q125
                                                  cases e125
                                                  replace hx125_0 := (HB.out.cell (World.block_lt_of_cell? w _ hx125_0)).trans hx125_0
                                                  replace p125 := eq_true p125
                                                  replace q125 := eq_true q125
                                                  go_wp2
                                                  repeat (go_quiet (fail); try go_wp2)
                                                  go_ret
                                                  exact ⟨by first | rfl | (simp [errW_none, errW_some] <;> rfl) | (simp only [← hji42, ← hji45]; first | rfl | (simp [errW_none, errW_some] <;> rfl)) | (simp [*, errW_none, errW_some] <;> rfl), by repeat (first | (with_reducible first | exact HB.out | apply below_alloc | apply pw_below_drewN | apply below_drew1) | exact HB.out)⟩
                                                · rw [if_neg c48] at H
                                                  have c48b0 : (!((((rd_T56 t120 (ji42)).f0).toList) == ((rdOf ByteArray.empty l0 (ji45)).toList)) || (!(((rd_T56 t120 (ji42)).f1) == 1))) = false := by simpa using c48
                                                  clear c48
                                                  by_cases c50 : x96_6 > 0
                                                  · rw [if_pos c50] at H
                                                    have c50b0 : decide (0 < x96_6) = true := decide_eq_true c50
                                                    clear c50
                                                    obtain ⟨ji51, hji51⟩ : ∃ j_ : Int, (wrap64 ((wrap64 ((wrap64 (2 * (l0.length : Int))) + x96_6)) - 1)) = j_ := ⟨_, rfl⟩
                                                    replace H : (if 0 ≤ (ji51) then (if (ji51) < (t120.length : Int) then (if 0 ≤ x96_6 then (if x96_6 < (l0.length : Int) then (if (!((((rd_T56 t120 (ji51)).f0).toList) == ((rdOf ByteArray.empty l0 x96_6).toList)) || (!(((rd_T56 t120 (ji51)).f1) == 1))) = true then (some false) else (laws_FnPastsBack.l4 k6 l0 (l0.length : Int) t120 (l0.length : Int) (wrap64 (x96_6 + 1)))) else (none)) else (none)) else (none)) else (none)) = some r := by first | (rw [hji51] at H; exact H) | (simp only [hji51] at H ⊢; exact H)
                                                    have hji51w : (IntKind.i64.wrap ((wrap64 ((wrap64 (2 * (l0.length : Int))) + x96_6)) - 1)) = ji51 := (i64_w _).trans hji51
                                                    by_cases c52 : 0 ≤ (ji51)
                                                    · rw [if_pos c52] at H
                                                      have c52b0 : decide (0 ≤ (ji51)) = true := decide_eq_true c52
                                                      clear c52
                                                      by_cases c53 : (ji51) < (t120.length : Int)
                                                      · rw [if_pos c53] at H
                                                        have c53b0 : decide ((ji51) < (t120.length : Int)) = true := decide_eq_true c53
                                                        clear c53
                                                        by_cases c54 : 0 ≤ x96_6
                                                        · rw [if_pos c54] at H
                                                          have c54b0 : decide (0 ≤ x96_6) = true := decide_eq_true c54
                                                          clear c54
                                                          by_cases c55 : x96_6 < (l0.length : Int)
                                                          · rw [if_pos c55] at H
                                                            have c55b0 : decide (x96_6 < (l0.length : Int)) = true := decide_eq_true c55
                                                            clear c55
                                                            by_cases c56 : (!((((rd_T56 t120 (ji51)).f0).toList) == ((rdOf ByteArray.empty l0 x96_6).toList)) || (!(((rd_T56 t120 (ji51)).f1) == 1))) = true
                                                            · rw [if_pos c56] at H
                                                              have c56b0 : (!((((rd_T56 t120 (ji51)).f0).toList) == ((rdOf ByteArray.empty l0 x96_6).toList)) || (!(((rd_T56 t120 (ji51)).f1) == 1))) = true := c56
                                                              clear c56
                                                              obtain rfl := Option.some.inj H
                                                              obtain ⟨Ao57, co57, eo57⟩ := Kd.R_slice HO_7.out
                                                              subst eo57
                                                              have p124 : 0 ≤ ((ji42) : Int) := of_decide_eq_true (by first | (with_reducible assumption) | assumption)
                                                              have q124 : (ji42) < (t120.length : Int) := of_decide_eq_true (by first | (with_reducible assumption) | assumption)
                                                              obtain ⟨ad124, e124, hx124_0, hx124_1⟩ := at_T56 (Kd.R_reads' HO_7.out).2.2 (ji42) p124 q124
                                                              cases e124
                                                              replace p124 := eq_true p124
                                                              replace q124 := eq_true q124
                                                              have p125 : 0 ≤ ((ji45) : Int) := of_decide_eq_true (by first | (with_reducible assumption) | assumption)
                                                              have q125 : (ji45) < (l0.length : Int) := of_decide_eq_true (by first | (with_reducible assumption) | assumption)
                                                              obtain ⟨ad125, e125, hx125_0⟩ := Kd.at_string HR0.out (ji45) p125 q125
                                                              cases e125
                                                              replace hx125_0 := (HB.out.cell (World.block_lt_of_cell? w _ hx125_0)).trans hx125_0
                                                              replace p125 := eq_true p125
                                                              replace q125 := eq_true q125
                                                              have p126 : 0 ≤ ((ji51) : Int) := of_decide_eq_true (by first | (with_reducible assumption) | assumption)
                                                              have q126 : (ji51) < (t120.length : Int) := of_decide_eq_true (by first | (with_reducible assumption) | assumption)
                                                              obtain ⟨ad126, e126, hx126_0, hx126_1⟩ := at_T56 (Kd.R_reads' HO_7.out).2.2 (ji51) p126 q126
                                                              obtain rfl : ad124 = ad126 := (by injection e126)
                                                              replace p126 := eq_true p126
                                                              replace q126 := eq_true q126
                                                              have p127 : 0 ≤ (x96_6 : Int) := of_decide_eq_true (by first | (with_reducible assumption) | assumption)
                                                              have q127 : x96_6 < (l0.length : Int) := of_decide_eq_true (by first | (with_reducible assumption) | assumption)
                                                              obtain ⟨ad127, e127, hx127_0⟩ := Kd.at_string HR0.out x96_6 p127 q127
                                                              obtain rfl : ad125 = ad127 := (by injection e127)
                                                              replace hx127_0 := (HB.out.cell (World.block_lt_of_cell? w _ hx127_0)).trans hx127_0
                                                              replace p127 := eq_true p127
                                                              replace q127 := eq_true q127
                                                              go_wp2
                                                              repeat (go_quiet (fail); try go_wp2)
                                                              go_ret
                                                              exact ⟨by first | rfl | (simp [errW_none, errW_some] <;> rfl) | (simp only [← hji42, ← hji45, ← hji51]; first | rfl | (simp [errW_none, errW_some] <;> rfl)) | (simp [*, errW_none, errW_some] <;> rfl), by repeat (first | (with_reducible first | exact HB.out | apply below_alloc | apply pw_below_drewN | apply below_drew1) | exact HB.out)⟩
                                                            · rw [if_neg c56] at H
                                                              have c56b0 : (!((((rd_T56 t120 (ji51)).f0).toList) == ((rdOf ByteArray.empty l0 x96_6).toList)) || (!(((rd_T56 t120 (ji51)).f1) == 1))) = false := by simpa using c56
                                                              clear c56
                                                              have H' := Aside0.mk H
                                                              clear H
                                                              obtain ⟨Ao58, co58, eo58⟩ := Kd.R_slice HO_7.out
                                                              subst eo58
                                                              have p124 : 0 ≤ ((ji42) : Int) := of_decide_eq_true (by first | (with_reducible assumption) | assumption)
                                                              have q124 : (ji42) < (t120.length : Int) := of_decide_eq_true (by first | (with_reducible assumption) | assumption)
                                                              obtain ⟨ad124, e124, hx124_0, hx124_1⟩ := at_T56 (Kd.R_reads' HO_7.out).2.2 (ji42) p124 q124
                                                              cases e124
                                                              replace p124 := eq_true p124
                                                              replace q124 := eq_true q124
                                                              have p125 : 0 ≤ ((ji45) : Int) := of_decide_eq_true (by first | (with_reducible assumption) | assumption)
                                                              have q125 : (ji45) < (l0.length : Int) := of_decide_eq_true (by first | (with_reducible assumption) | assumption)
                                                              obtain ⟨ad125, e125, hx125_0⟩ := Kd.at_string HR0.out (ji45) p125 q125
                                                              cases e125
                                                              replace hx125_0 := (HB.out.cell (World.block_lt_of_cell? w _ hx125_0)).trans hx125_0
                                                              replace p125 := eq_true p125
                                                              replace q125 := eq_true q125
                                                              have p126 : 0 ≤ ((ji51) : Int) := of_decide_eq_true (by first | (with_reducible assumption) | assumption)
                                                              have q126 : (ji51) < (t120.length : Int) := of_decide_eq_true (by first | (with_reducible assumption) | assumption)
                                                              obtain ⟨ad126, e126, hx126_0, hx126_1⟩ := at_T56 (Kd.R_reads' HO_7.out).2.2 (ji51) p126 q126
                                                              obtain rfl : ad124 = ad126 := (by injection e126)
                                                              replace p126 := eq_true p126
                                                              replace q126 := eq_true q126
                                                              have p127 : 0 ≤ (x96_6 : Int) := of_decide_eq_true (by first | (with_reducible assumption) | assumption)
                                                              have q127 : x96_6 < (l0.length : Int) := of_decide_eq_true (by first | (with_reducible assumption) | assumption)
                                                              obtain ⟨ad127, e127, hx127_0⟩ := Kd.at_string HR0.out x96_6 p127 q127
                                                              obtain rfl : ad125 = ad127 := (by injection e127)
                                                              replace hx127_0 := (HB.out.cell (World.block_lt_of_cell? w _ hx127_0)).trans hx127_0
                                                              replace p127 := eq_true p127
                                                              replace q127 := eq_true q127
                                                              go_wp2
                                                              repeat (go_quiet (fail); try go_wp2)
                                                              go_roundg k6
                                                              case measure => have := HJ3.out; have := HK2.out; have := HK3.out; have := HK4.out; have := HJ34.out; have := HK6.out; omega
                                                              case rel => exact ⟨(wrap64 (x96_6 + 1)), (by first | rfl | (simp; done) | (simp [*]; done)), H', ⟨by have := HJ3.out; have := HK2.out; have := HK3.out; have := HK4.out; have := HJ34.out; have := HK6.out; omega⟩, ⟨by (with_reducible repeat (first | apply Kd.R_alloc | apply Kd.R_drewN | apply Kd.R_drew)); exact HO_7.out⟩, ⟨by repeat (first | (with_reducible first | exact HB.out | apply below_alloc | apply pw_below_drewN | apply below_drew1) | exact HB.out)⟩⟩
                                                          · rw [if_neg c55] at H
                                                            exact absurd H (by simp)
                                                        · rw [if_neg c54] at H
                                                          exact absurd H (by simp)
                                                      · rw [if_neg c53] at H
                                                        exact absurd H (by simp)
                                                    · rw [if_neg c52] at H
                                                      exact absurd H (by simp)
                                                  · rw [if_neg c50] at H
                                                    have c50b0 : decide (0 < x96_6) = false := decide_eq_false c50
                                                    clear c50
                                                    have H' := Aside0.mk H
                                                    clear H
                                                    obtain ⟨Ao59, co59, eo59⟩ := Kd.R_slice HO_7.out
                                                    subst eo59
                                                    have p124 : 0 ≤ ((ji42) : Int) := of_decide_eq_true (by first | (with_reducible assumption) | assumption)
                                                    have q124 : (ji42) < (t120.length : Int) := of_decide_eq_true (by first | (with_reducible assumption) | assumption)
                                                    obtain ⟨ad124, e124, hx124_0, hx124_1⟩ := at_T56 (Kd.R_reads' HO_7.out).2.2 (ji42) p124 q124
                                                    cases e124
                                                    replace p124 := eq_true p124
                                                    replace q124 := eq_true q124
                                                    have p125 : 0 ≤ ((ji45) : Int) := of_decide_eq_true (by first | (with_reducible assumption) | assumption)
                                                    have q125 : (ji45) < (l0.length : Int) := of_decide_eq_true (by first | (with_reducible assumption) | assumption)
                                                    obtain ⟨ad125, e125, hx125_0⟩ := Kd.at_string HR0.out (ji45) p125 q125
                                                    cases e125
                                                    replace hx125_0 := (HB.out.cell (World.block_lt_of_cell? w _ hx125_0)).trans hx125_0
                                                    replace p125 := eq_true p125
                                                    replace q125 := eq_true q125
                                                    go_wp2
                                                    repeat (go_quiet (fail); try go_wp2)
                                                    go_roundg k6
                                                    case measure => have := HJ3.out; have := HK2.out; have := HK3.out; have := HK4.out; have := HJ34.out; have := HK6.out; omega
                                                    case rel => exact ⟨(wrap64 (x96_6 + 1)), (by first | rfl | (simp; done) | (simp [*]; done)), H', ⟨by have := HJ3.out; have := HK2.out; have := HK3.out; have := HK4.out; have := HJ34.out; have := HK6.out; omega⟩, ⟨by (with_reducible repeat (first | apply Kd.R_alloc | apply Kd.R_drewN | apply Kd.R_drew)); exact HO_7.out⟩, ⟨by repeat (first | (with_reducible first | exact HB.out | apply below_alloc | apply pw_below_drewN | apply below_drew1) | exact HB.out)⟩⟩
                                              · rw [if_neg c47] at H
                                                exact absurd H (by simp)
                                            · rw [if_neg c46] at H
                                              exact absurd H (by simp)
                                          · rw [if_neg c44] at H
                                            exact absurd H (by simp)
                                        · rw [if_neg c43] at H
                                          exact absurd H (by simp)
                                      · rw [if_neg c41] at H
                                        have c41b0 : decide (x96_6 < (l0.length : Int)) = false := decide_eq_false c41
                                        clear c41
                                        obtain rfl := Option.some.inj H
                                        go_wp2
                                        repeat (go_quiet (fail); try go_wp2)
                                        go_ret
                                        exact ⟨by first | rfl | (simp [errW_none, errW_some] <;> rfl) | (simp [*, errW_none, errW_some] <;> rfl), by repeat (first | (with_reducible first | exact HB.out | apply below_alloc | apply pw_below_drewN | apply below_drew1) | exact HB.out)⟩
  · replace c3 := Bool.eq_false_iff.mpr c3
    subst c3
    have H1 : (some true) = some r := by rw [if_neg (show ¬ (false = true) by decide)] at H; exact H
    clear H
    have H := H1
    clear H1
    obtain rfl := Option.some.inj H
    go_enter Tryd.func12, Tryd.ntmps12
    go_wp2_with (first | (go_at_call 25; (with_reducible refine (laws_zzFits1.calls k _ _ l0 false _ ?side1 ?side2 A2.out).mono ?_); (case side1 => repeat (first | exact HR0.out | (with_reducible refine Kd.C_alloc ?_ _) | (with_reducible refine Kd.C_drewN ?_ _) | (with_reducible refine Kd.C_drew ?_))); (case side2 => exact HC0.out); rintro e w' ⟨rfl, ⟨nd, rfl⟩⟩; (try first | exact ⟨rfl, _, World.drewN_drewN _ _ _⟩ | exact ⟨rfl, _, Eq.trans (World.drewN_drewN _ _ _) (congrArg (World.drewN _) (Nat.add_assoc _ _ _))⟩)))
    repeat (go_quiet (first | (go_at_call 25; (with_reducible refine (laws_zzFits1.calls k _ _ l0 false _ ?side1 ?side2 A2.out).mono ?_); (case side1 => repeat (first | exact HR0.out | (with_reducible refine Kd.C_alloc ?_ _) | (with_reducible refine Kd.C_drewN ?_ _) | (with_reducible refine Kd.C_drew ?_))); (case side2 => exact HC0.out); rintro e w' ⟨rfl, ⟨nd, rfl⟩⟩; (try first | exact ⟨rfl, _, World.drewN_drewN _ _ _⟩ | exact ⟨rfl, _, Eq.trans (World.drewN_drewN _ _ _) (congrArg (World.drewN _) (Nat.add_assoc _ _ _))⟩))); try go_wp2_with (first | (go_at_call 25; (with_reducible refine (laws_zzFits1.calls k _ _ l0 false _ ?side1 ?side2 A2.out).mono ?_); (case side1 => repeat (first | exact HR0.out | (with_reducible refine Kd.C_alloc ?_ _) | (with_reducible refine Kd.C_drewN ?_ _) | (with_reducible refine Kd.C_drew ?_))); (case side2 => exact HC0.out); rintro e w' ⟨rfl, ⟨nd, rfl⟩⟩; (try first | exact ⟨rfl, _, World.drewN_drewN _ _ _⟩ | exact ⟨rfl, _, Eq.trans (World.drewN_drewN _ _ _) (congrArg (World.drewN _) (Nat.add_assoc _ _ _))⟩))))
    go_ret
    exact ⟨by first | rfl | (simp [errW_none, errW_some] <;> rfl) | (simp [*, errW_none, errW_some] <;> rfl), by repeat (first | (with_reducible first | exact HB.out | apply below_alloc | apply pw_below_drewN | apply below_drew1) | exact HB.out)⟩
/-- THE ONE PURE STATEMENT of laws_FnPastsBack: yours. -/
def laws_FnPastsBack.Pure : Prop := ∀ (l0 : List ByteArray), l0.length ≤ maxLen → (∀ x ∈ l0, x.size ≤ maxLen) → ∃ k, laws_FnPastsBack.f k l0 = some true
theorem laws_FnPastsBack.walk (P : laws_FnPastsBack.Pure) (A0 : Option Addr) (c0 : Nat) (l0 : List ByteArray) (w : World) (hr0 : Kd.C Kd.string w A0 l0.length l0) (hc0 : l0.length ≤ c0) (hm0 : l0.length ≤ maxLen) (hg0 : ∀ x ∈ l0, x.size ≤ maxLen) :
    Calls Tryd.prog 12 #[.slice A0 l0.length c0] w fun e w' => e = .returned (.bool true) ∧ Below w.heap.size w w' := by
  obtain ⟨k, h⟩ := P l0 hm0 hg0
  refine (laws_FnPastsBack.calls k A0 c0 l0 true w hr0 hc0 h).mono ?_
  rintro e w' ⟨rfl, hd⟩
  exact ⟨rfl, hd⟩
end Go.Proofs.YtdinikcfhpfojaaDoor.PFnPastsBack
