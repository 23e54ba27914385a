/- Printed by a program of this seat (xprint) out of the translation: Go functions as plain functions, and the walks that show them; no condition. -/
import Derived.Test.YthbdaoapjnofkaaQPFnOlderNewerx0
import Derived.Test.YthbdaoapjnofkaaQHTnFnOlderNewer
import Derived.Test.YthbdaoapjnofkaaQPFnOlderNewerx1
namespace Go.Proofs.Ythbdaoapjnofkaa.PFnOlderNewer
open Go.RowKit Go.Proofs.Ythbdaoapjnofkaa.H Go.Proofs.Ythbdaoapjnofkaa.R Go.Proofs.YthbdaoapjnofkaaW.PrintWords Go.Proofs.YthbdaoapjnofkaaW.PrintLast Go.Proofs.YthbdaoapjnofkaaW.PrintMore
attribute [local go_sem] max2_int min2_int max_two min_two max_three min_three max_four min_four   -- for this text's walks alone
set_option linter.unusedVariables false
set_option linter.unusedSimpArgs false
/-! ### laws_FnOlderNewer: function 4 -/
mutual
def laws_FnOlderNewer.j0 : Nat → List ByteArray → ByteArray → Bool → Option (Bool)
  | 0, _, _, _ => none
  | k + 1, x0, x1, x22 => if x22 = true then (some true) else (if (x0.length : Int) > 12 then (laws_FnOlderNewer.j1 k x0 x1 true) else ((spec_ASCII.f k x1).bind fun t103 => (laws_FnOlderNewer.j1 k x0 x1 (!t103))))
def laws_FnOlderNewer.j1 : Nat → List ByteArray → ByteArray → Bool → Option (Bool)
  | 0, _, _, _ => none
  | k + 1, x0, x1, x30 => if x30 = true then (some true) else (laws_FnOlderNewer.l0 k x0 x1 ([] : List (S27)) 0)
def laws_FnOlderNewer.l0 : Nat → List ByteArray → ByteArray → List (S27) → Int → Option (Bool)
  | 0, _, _, _, _ => none
  | k + 1, x0, x1, x5, x6 => if x6 < (x0.length : Int) then (if 0 ≤ x6 then ((spec_ASCII.f k (rdOf ByteArray.empty x0 x6)).bind fun t105 => (if t105 = true then (if x5.length < 5864062014805 then (laws_FnOlderNewer.l0 k x0 x1 (x5 ++ [(⟨1, rdOf ByteArray.empty x0 x6⟩ : S27)]) (wrap64 (x6 + 1))) else (none)) else (some true))) else (none)) else (if x5.length < 5864062014805 then (laws_FnOlderNewer.l1 k x0 x1 (x5 ++ [(⟨4, (⟨#[]⟩ : ByteArray)⟩ : S27)]) x1 (wrap64 ((x0.length : Int) - 1))) else (none))
def laws_FnOlderNewer.l1 : Nat → List ByteArray → ByteArray → List (S27) → ByteArray → Int → Option (Bool)
  | 0, _, _, _, _, _ => none
  | k + 1, x0, x1, x5, x7, x8 => if x8 ≥ 0 then (if x5.length < 5864062014805 then (if 0 ≤ x8 then (if x8 < (x0.length : Int) then (laws_FnOlderNewer.l1 k x0 x1 (x5 ++ [(⟨2, x7⟩ : S27)]) (rdOf ByteArray.empty x0 x8) (wrap64 (x8 - 1))) else (none)) else (none)) else (none)) else (laws_FnOlderNewer.l2 k x0 x1 x5 x7 1)
def laws_FnOlderNewer.l2 : Nat → List ByteArray → ByteArray → List (S27) → ByteArray → Int → Option (Bool)
  | 0, _, _, _, _, _ => none
  | k + 1, x0, x1, x5, x7, x9 => if x9 ≤ (x0.length : Int) then (if x5.length < 5864062014805 then ((some (x5 ++ [(⟨3, x7⟩ : S27)] : List (S27))).bind fun y117 => (if x9 < (x0.length : Int) then (if 0 ≤ x9 then (laws_FnOlderNewer.l2 k x0 x1 y117 (rdOf ByteArray.empty x0 x9) (wrap64 (x9 + 1))) else (none)) else (laws_FnOlderNewer.l2 k x0 x1 y117 x7 (wrap64 (x9 + 1))))) else (none)) else ((impl_Turned.f x5).bind fun bt121 => (if (bt121.1.length : Int) = (x5.length : Int) then (laws_FnOlderNewer.l3 k x0 x1 bt121.1 (wrap64 ((x0.length : Int) + 1)) 0) else (some false)))
def laws_FnOlderNewer.l3 : Nat → List ByteArray → ByteArray → List ByteArray → Int → Int → Option (Bool)
  | 0, _, _, _, _, _ => none
  | k + 1, x0, x1, x10, x12, x13 => if x13 < (x0.length : Int) then (if 0 ≤ (wrap64 (x12 + x13)) then (if (wrap64 (x12 + x13)) < (x10.length : Int) then (if 0 ≤ (wrap64 ((wrap64 ((x0.length : Int) - 1)) - x13)) then (if (wrap64 ((wrap64 ((x0.length : Int) - 1)) - x13)) < (x0.length : Int) then (if (rdOf ByteArray.empty x10 (wrap64 (x12 + x13))).toList = (rdOf ByteArray.empty x0 (wrap64 ((wrap64 ((x0.length : Int) - 1)) - x13))).toList then (if (wrap64 (x13 + 1)) < (x0.length : Int) then (if 0 ≤ (wrap64 (x13 + 1)) then (if 0 ≤ (wrap64 ((wrap64 (x12 + (x0.length : Int))) + x13)) then (if (wrap64 ((wrap64 (x12 + (x0.length : Int))) + x13)) < (x10.length : Int) then (if (rdOf ByteArray.empty x10 (wrap64 ((wrap64 (x12 + (x0.length : Int))) + x13))).toList = (rdOf ByteArray.empty x0 (wrap64 (x13 + 1))).toList then (laws_FnOlderNewer.l3 k x0 x1 x10 x12 (wrap64 (x13 + 1))) else (some false)) else (none)) else (none)) else (none)) else (if 0 ≤ (wrap64 ((wrap64 (x12 + (x0.length : Int))) + x13)) then (if (wrap64 ((wrap64 (x12 + (x0.length : Int))) + x13)) < (x10.length : Int) then (if (rdOf ByteArray.empty x10 (wrap64 ((wrap64 (x12 + (x0.length : Int))) + x13))).toList = x1.toList then (laws_FnOlderNewer.l3 k x0 x1 x10 x12 (wrap64 (x13 + 1))) else (some false)) else (none)) else (none))) else (some false)) else (none)) else (none)) else (none)) else (none)) else (some true)
end
def laws_FnOlderNewer.f (k : Nat) (l0 : List ByteArray) (a1 : ByteArray) : Option (Bool) := (laws_zzFits1.f k l0).bind fun t102 => (if t102 = true then (laws_FnOlderNewer.j0 k l0 a1 (decide ((a1.size : Int) > 2147483647))) else (laws_FnOlderNewer.j0 k l0 a1 true))
theorem laws_FnOlderNewer.mono_l : ∀ k, (∀ y0 y1 y2, LeO (laws_FnOlderNewer.j0 k y0 y1 y2) (laws_FnOlderNewer.j0 (k + 1) y0 y1 y2)) ∧ (∀ y0 y1 y2, LeO (laws_FnOlderNewer.j1 k y0 y1 y2) (laws_FnOlderNewer.j1 (k + 1) y0 y1 y2)) ∧ (∀ y0 y1 y2 y3, LeO (laws_FnOlderNewer.l0 k y0 y1 y2 y3) (laws_FnOlderNewer.l0 (k + 1) y0 y1 y2 y3)) ∧ (∀ y0 y1 y2 y3 y4, LeO (laws_FnOlderNewer.l1 k y0 y1 y2 y3 y4) (laws_FnOlderNewer.l1 (k + 1) y0 y1 y2 y3 y4)) ∧ (∀ y0 y1 y2 y3 y4, LeO (laws_FnOlderNewer.l2 k y0 y1 y2 y3 y4) (laws_FnOlderNewer.l2 (k + 1) y0 y1 y2 y3 y4)) ∧ (∀ y0 y1 y2 y3 y4, LeO (laws_FnOlderNewer.l3 k y0 y1 y2 y3 y4) (laws_FnOlderNewer.l3 (k + 1) y0 y1 y2 y3 y4))
  | 0 => ⟨fun _ _ _ r h => by simp [laws_FnOlderNewer.j0] at h, fun _ _ _ r h => by simp [laws_FnOlderNewer.j1] at h, fun _ _ _ _ r h => by simp [laws_FnOlderNewer.l0] at h, fun _ _ _ _ _ r h => by simp [laws_FnOlderNewer.l1] at h, fun _ _ _ _ _ r h => by simp [laws_FnOlderNewer.l2] at h, fun _ _ _ _ _ r h => by simp [laws_FnOlderNewer.l3] at h⟩
  | k + 1 => by
    obtain ⟨ih0, ih1, ih2, ih3, ih4, ih5⟩ := laws_FnOlderNewer.mono_l k
    refine ⟨?_, ?_, ?_, ?_, ?_, ?_⟩
    · intro y0 y1 y2
      unfold laws_FnOlderNewer.j0
      repeat' first
      | (with_reducible exact ih0 _ _ _)
      | (with_reducible exact ih1 _ _ _)
      | (with_reducible exact ih2 _ _ _ _)
      | (with_reducible exact ih3 _ _ _ _ _)
      | (with_reducible exact ih4 _ _ _ _ _)
      | (with_reducible exact ih5 _ _ _ _ _)
      | (with_reducible exact laws_zzFits1.mono _ _)
      | (with_reducible exact spec_ASCII.mono _ _)
      | (with_reducible exact LeO.refl _)
      | (with_reducible exact LeO.none _)
      | (with_reducible refine LeO.ite ?_ ?_)
      | (with_reducible refine LeO.bind ?_ (fun _ => ?_))
      | exact ih0 _ _ _
      | exact ih1 _ _ _
      | exact ih2 _ _ _ _
      | exact ih3 _ _ _ _ _
      | exact ih4 _ _ _ _ _
      | exact ih5 _ _ _ _ _
      | exact laws_zzFits1.mono _ _
      | exact spec_ASCII.mono _ _
      | exact LeO.none _
      | refine LeO.ite ?_ ?_
      | refine LeO.bind ?_ (fun _ => ?_)
    · intro y0 y1 y2
      unfold laws_FnOlderNewer.j1
      repeat' first
      | (with_reducible exact ih0 _ _ _)
      | (with_reducible exact ih1 _ _ _)
      | (with_reducible exact ih2 _ _ _ _)
      | (with_reducible exact ih3 _ _ _ _ _)
      | (with_reducible exact ih4 _ _ _ _ _)
      | (with_reducible exact ih5 _ _ _ _ _)
      | (with_reducible exact laws_zzFits1.mono _ _)
      | (with_reducible exact spec_ASCII.mono _ _)
      | (with_reducible exact LeO.refl _)
      | (with_reducible exact LeO.none _)
      | (with_reducible refine LeO.ite ?_ ?_)
      | (with_reducible refine LeO.bind ?_ (fun _ => ?_))
      | exact ih0 _ _ _
      | exact ih1 _ _ _
      | exact ih2 _ _ _ _
      | exact ih3 _ _ _ _ _
      | exact ih4 _ _ _ _ _
      | exact ih5 _ _ _ _ _
      | exact laws_zzFits1.mono _ _
      | exact spec_ASCII.mono _ _
      | exact LeO.none _
      | refine LeO.ite ?_ ?_
      | refine LeO.bind ?_ (fun _ => ?_)
    · intro y0 y1 y2 y3
      unfold laws_FnOlderNewer.l0
      repeat' first
      | (with_reducible exact ih0 _ _ _)
      | (with_reducible exact ih1 _ _ _)
      | (with_reducible exact ih2 _ _ _ _)
      | (with_reducible exact ih3 _ _ _ _ _)
      | (with_reducible exact ih4 _ _ _ _ _)
      | (with_reducible exact ih5 _ _ _ _ _)
      | (with_reducible exact laws_zzFits1.mono _ _)
      | (with_reducible exact spec_ASCII.mono _ _)
      | (with_reducible exact LeO.refl _)
      | (with_reducible exact LeO.none _)
      | (with_reducible refine LeO.ite ?_ ?_)
      | (with_reducible refine LeO.bind ?_ (fun _ => ?_))
      | exact ih0 _ _ _
      | exact ih1 _ _ _
      | exact ih2 _ _ _ _
      | exact ih3 _ _ _ _ _
      | exact ih4 _ _ _ _ _
      | exact ih5 _ _ _ _ _
      | exact laws_zzFits1.mono _ _
      | exact spec_ASCII.mono _ _
      | exact LeO.none _
      | refine LeO.ite ?_ ?_
      | refine LeO.bind ?_ (fun _ => ?_)
    · intro y0 y1 y2 y3 y4
      unfold laws_FnOlderNewer.l1
      repeat' first
      | (with_reducible exact ih0 _ _ _)
      | (with_reducible exact ih1 _ _ _)
      | (with_reducible exact ih2 _ _ _ _)
      | (with_reducible exact ih3 _ _ _ _ _)
      | (with_reducible exact ih4 _ _ _ _ _)
      | (with_reducible exact ih5 _ _ _ _ _)
      | (with_reducible exact laws_zzFits1.mono _ _)
      | (with_reducible exact spec_ASCII.mono _ _)
      | (with_reducible exact LeO.refl _)
      | (with_reducible exact LeO.none _)
      | (with_reducible refine LeO.ite ?_ ?_)
      | (with_reducible refine LeO.bind ?_ (fun _ => ?_))
      | exact ih0 _ _ _
      | exact ih1 _ _ _
      | exact ih2 _ _ _ _
      | exact ih3 _ _ _ _ _
      | exact ih4 _ _ _ _ _
      | exact ih5 _ _ _ _ _
      | exact laws_zzFits1.mono _ _
      | exact spec_ASCII.mono _ _
      | exact LeO.none _
      | refine LeO.ite ?_ ?_
      | refine LeO.bind ?_ (fun _ => ?_)
    · intro y0 y1 y2 y3 y4
      unfold laws_FnOlderNewer.l2
      repeat' first
      | (with_reducible exact ih0 _ _ _)
      | (with_reducible exact ih1 _ _ _)
      | (with_reducible exact ih2 _ _ _ _)
      | (with_reducible exact ih3 _ _ _ _ _)
      | (with_reducible exact ih4 _ _ _ _ _)
      | (with_reducible exact ih5 _ _ _ _ _)
      | (with_reducible exact laws_zzFits1.mono _ _)
      | (with_reducible exact spec_ASCII.mono _ _)
      | (with_reducible exact LeO.refl _)
      | (with_reducible exact LeO.none _)
      | (with_reducible refine LeO.ite ?_ ?_)
      | (with_reducible refine LeO.bind ?_ (fun _ => ?_))
      | exact ih0 _ _ _
      | exact ih1 _ _ _
      | exact ih2 _ _ _ _
      | exact ih3 _ _ _ _ _
      | exact ih4 _ _ _ _ _
      | exact ih5 _ _ _ _ _
      | exact laws_zzFits1.mono _ _
      | exact spec_ASCII.mono _ _
      | exact LeO.none _
      | refine LeO.ite ?_ ?_
      | refine LeO.bind ?_ (fun _ => ?_)
    · intro y0 y1 y2 y3 y4
      unfold laws_FnOlderNewer.l3
      repeat' first
      | (with_reducible exact ih0 _ _ _)
      | (with_reducible exact ih1 _ _ _)
      | (with_reducible exact ih2 _ _ _ _)
      | (with_reducible exact ih3 _ _ _ _ _)
      | (with_reducible exact ih4 _ _ _ _ _)
      | (with_reducible exact ih5 _ _ _ _ _)
      | (with_reducible exact laws_zzFits1.mono _ _)
      | (with_reducible exact spec_ASCII.mono _ _)
      | (with_reducible exact LeO.refl _)
      | (with_reducible exact LeO.none _)
      | (with_reducible refine LeO.ite ?_ ?_)
      | (with_reducible refine LeO.bind ?_ (fun _ => ?_))
      | exact ih0 _ _ _
      | exact ih1 _ _ _
      | exact ih2 _ _ _ _
      | exact ih3 _ _ _ _ _
      | exact ih4 _ _ _ _ _
      | exact ih5 _ _ _ _ _
      | exact laws_zzFits1.mono _ _
      | exact spec_ASCII.mono _ _
      | exact LeO.none _
      | refine LeO.ite ?_ ?_
      | refine LeO.bind ?_ (fun _ => ?_)
theorem laws_FnOlderNewer.mono : ∀ a0 a1 k, LeO (laws_FnOlderNewer.f k a0 a1) (laws_FnOlderNewer.f (k + 1) a0 a1) := by
  intro a0 a1 k
  obtain ⟨ih0, ih1, ih2, ih3, ih4, ih5⟩ := laws_FnOlderNewer.mono_l k
  unfold laws_FnOlderNewer.f
  repeat' first
      | (with_reducible exact ih0 _ _ _)
      | (with_reducible exact ih1 _ _ _)
      | (with_reducible exact ih2 _ _ _ _)
      | (with_reducible exact ih3 _ _ _ _ _)
      | (with_reducible exact ih4 _ _ _ _ _)
      | (with_reducible exact ih5 _ _ _ _ _)
      | (with_reducible exact laws_zzFits1.mono _ _)
      | (with_reducible exact spec_ASCII.mono _ _)
      | (with_reducible exact LeO.refl _)
      | (with_reducible exact LeO.none _)
      | (with_reducible refine LeO.ite ?_ ?_)
      | (with_reducible refine LeO.bind ?_ (fun _ => ?_))
      | exact ih0 _ _ _
      | exact ih1 _ _ _
      | exact ih2 _ _ _ _
      | exact ih3 _ _ _ _ _
      | exact ih4 _ _ _ _ _
      | exact ih5 _ _ _ _ _
      | exact laws_zzFits1.mono _ _
      | exact spec_ASCII.mono _ _
      | exact LeO.none _
      | refine LeO.ite ?_ ?_
      | refine LeO.bind ?_ (fun _ => ?_)
def laws_FnOlderNewer.T17 : Bool × List (List Nat × List Nat) := (true, [([], []), ([], []), ([1], [1]), ([2], [2]), ([0, 3], [0, 3]), ([], []), ([], []), ([5, 6], [5, 6]), ([7], [7]), ([4, 4, 0, 1, 2, 3, 4], [0, 4]), ([8, 9, 0, 1, 2, 3, 4, 5, 6, 7, 8, 9], [1, 8])])
def laws_FnOlderNewer.B17 : List Nat := [0, 0, 2, 6, 15, 0, 0, 96, 224, 31, 1023]
theorem laws_FnOlderNewer.tab17 : rtab .any (opsOf Try.f4 17) = laws_FnOlderNewer.T17 := by kernel_rfl
theorem laws_FnOlderNewer.bits17 : waitsOk laws_FnOlderNewer.T17.2 laws_FnOlderNewer.B17 = true := by kernel_rfl
def laws_FnOlderNewer.T31 : Bool × List (List Nat × List Nat) := (true, [([], []), ([], []), ([], []), ([1, 2], [1, 2]), ([0, 3], [0, 3]), ([4], [4]), ([], []), ([], []), ([7], [7]), ([8], [8]), ([], []), ([9, 10], [9, 10]), ([6, 11], [6, 11]), ([12], [12]), ([5, 13], [5, 13])])
def laws_FnOlderNewer.B31 : List Nat := [0, 0, 0, 6, 15, 31, 0, 0, 128, 384, 0, 1920, 4032, 8128, 16383]
theorem laws_FnOlderNewer.tab31 : rtab .any (opsOf Try.f4 31) = laws_FnOlderNewer.T31 := by kernel_rfl
theorem laws_FnOlderNewer.bits31 : waitsOk laws_FnOlderNewer.T31.2 laws_FnOlderNewer.B31 = true := by kernel_rfl
set_option maxHeartbeats 8000000 in
set_option maxRecDepth 100000 in
theorem laws_FnOlderNewer.calls (k : Nat) (A0 : Option Addr) (c0 : Nat) (l0 : List ByteArray) (a1 : ByteArray) (r : Bool) (w : World) (hr0 : Kd.C Kd.string w A0 l0.length l0) (hc0 : l0.length ≤ c0) (h : laws_FnOlderNewer.f k l0 a1 = some r) :
    Calls Try.prog 4 #[.slice A0 l0.length c0, .string a1] w fun e w' => e = .returned (.bool r) ∧ Below w.heap.size w w' := by
  have hu27 := Try.underlying27
  have HR0 := Aside0.mk hr0
  have HC0 := Aside0.mk hc0
  clear hr0 hc0
  have HB := Aside0.mk (Below.refl w.heap.size w)
  have H : ((laws_zzFits1.f k l0).bind fun t102 => (if t102 = true then (laws_FnOlderNewer.j0 k l0 a1 (decide ((a1.size : Int) > 2147483647))) else (laws_FnOlderNewer.j0 k l0 a1 true))) = some r := h
  clear h
  have HC3 := Aside0.mk H
  clear H
  go_enter Try.func4, Try.ntmps4
  go_upto_region 1 with (fail)
  go_cut [22] (fun v22 wc => ∃ (kq : Nat) (x22_2 : Bool), v22 = .bool x22_2 ∧ Aside0 (laws_FnOlderNewer.j0 kq l0 a1 x22_2 = some r) ∧ Aside0 (kq ≤ k) ∧ Aside0 (Below w.heap.size w wc))
  case first =>
    have H := HC3.out
    clear HC3
    replace H := Option.bind_eq_some_iff.mp H
    obtain ⟨t102, A40, H⟩ := H
    replace H : (if t102 = true then (laws_FnOlderNewer.j0 k l0 a1 (decide ((a1.size : Int) > 2147483647))) else (laws_FnOlderNewer.j0 k l0 a1 true)) = some r := H
    have A4 := Aside0.mk A40
    clear A40
    by_cases c5 : t102 = true
    · subst c5
      have H1 : (laws_FnOlderNewer.j0 k l0 a1 (decide ((a1.size : Int) > 2147483647))) = some r := by rw [if_pos rfl] at H; exact H
      clear H
      have H := H1
      clear H1
      have H' := Aside0.mk H
      clear H
      go_wp2_with (first | ((with_reducible refine gate_callee (f := 7) rfl ?_); refine goesL_ (some 16) rfl rfl Try.func7 (by kernel_rfl) rfl #[.slice A0 l0.length c0] rfl (by (try simp only [List.map_toArray, List.map_cons, List.map_nil]); first | done | rfl | (simp only [List.length_drop, List.length_take]; rfl) | (simp only [Int.toNat_natCast, ByteArray.extract_zero_size]; rfl)) ?_; (with_reducible refine (laws_zzFits1.calls k _ _ l0 true _ ?side1 ?side2 A4.out).mono ?_); (case side1 => repeat (first | exact (Kd.C_below HR0.out HB.out) | (with_reducible refine Kd.C_alloc ?_ _) | (with_reducible refine Kd.C_drewN ?_ _) | (with_reducible refine Kd.C_drew ?_))); (case side2 => exact HC0.out); rintro e w' ⟨rfl, ⟨nd, rfl⟩⟩; refine ⟨_, rfl, ?_⟩))
      go_meet
      case rel => exact ⟨_, (decide ((a1.size : Int) > 2147483647)), (by first | rfl | (simp; done) | (simp [*]; done)), H', ⟨by first | omega | exact Nat.le_refl _⟩, ⟨by repeat (first | (with_reducible first | exact HB.out | apply below_alloc | apply pw_below_drewN | apply below_drew1) | exact HB.out)⟩⟩
    · replace c5 := Bool.eq_false_iff.mpr c5
      subst c5
      have H1 : (laws_FnOlderNewer.j0 k l0 a1 true) = some r := by rw [if_neg (show ¬ (false = true) by decide)] at H; exact H
      clear H
      have H := H1
      clear H1
      have H' := Aside0.mk H
      clear H
      go_wp2_with (first | ((with_reducible refine gate_callee (f := 7) rfl ?_); refine goesL_ (some 16) rfl rfl Try.func7 (by kernel_rfl) rfl #[.slice A0 l0.length c0] rfl (by (try simp only [List.map_toArray, List.map_cons, List.map_nil]); first | done | rfl | (simp only [List.length_drop, List.length_take]; rfl) | (simp only [Int.toNat_natCast, ByteArray.extract_zero_size]; rfl)) ?_; (with_reducible refine (laws_zzFits1.calls k _ _ l0 false _ ?side1 ?side2 A4.out).mono ?_); (case side1 => repeat (first | exact (Kd.C_below HR0.out HB.out) | (with_reducible refine Kd.C_alloc ?_ _) | (with_reducible refine Kd.C_drewN ?_ _) | (with_reducible refine Kd.C_drew ?_))); (case side2 => exact HC0.out); rintro e w' ⟨rfl, ⟨nd, rfl⟩⟩; refine ⟨_, rfl, ?_⟩))
      go_meet
      case rel => exact ⟨_, (true), (by first | rfl | (simp; done) | (simp [*]; done)), H', ⟨by first | omega | exact Nat.le_refl _⟩, ⟨by repeat (first | (with_reducible first | exact HB.out | apply below_alloc | apply pw_below_drewN | apply below_drew1) | exact HB.out)⟩⟩
  case rest =>
    clear HC3
    try clear p2
    try clear c4
    try clear c5
    obtain ⟨kq, x22_2, rfl, HA, HJ2, HB⟩ := hcut
    cases kq with
    | zero => exact absurd HA.out (by simp [laws_FnOlderNewer.j0])
    | succ kj2 =>
      have H := HA.out
      clear HA
      simp only [laws_FnOlderNewer.j0] at H
      by_cases c6 : x22_2 = true
      · subst c6
        have H1 : (some true) = some r := by rw [if_pos rfl] at H; exact H
        clear H
        have H := H1
        clear H1
        obtain rfl := Option.some.inj H
        go_wp2
        go_ret
        exact ⟨by first | rfl | (simp [errW_none, errW_some] <;> rfl) | (simp [*, errW_none, errW_some] <;> rfl), by repeat (first | (with_reducible first | exact HB.out | apply below_alloc | apply pw_below_drewN | apply below_drew1) | exact HB.out)⟩
      · replace c6 := Bool.eq_false_iff.mpr c6
        subst c6
        have H1 : (if (l0.length : Int) > 12 then (laws_FnOlderNewer.j1 kj2 l0 a1 true) else ((spec_ASCII.f kj2 a1).bind fun t103 => (laws_FnOlderNewer.j1 kj2 l0 a1 (!t103)))) = some r := by rw [if_neg (show ¬ (false = true) by decide)] at H; exact H
        clear H
        have H := H1
        clear H1
        have HC7 := Aside0.mk H
        clear H
        go_upto_region 3 with (fail)
        go_cut [30] (fun v30 wc => ∃ (kq : Nat) (x30_6 : Bool), v30 = .bool x30_6 ∧ Aside0 (laws_FnOlderNewer.j1 kq l0 a1 x30_6 = some r) ∧ Aside0 (kq ≤ kj2) ∧ Aside0 (Below w.heap.size w wc))
        case first =>
          have H := HC7.out
          clear HC7
          by_cases c8 : (l0.length : Int) > 12
          · rw [if_pos c8] at H
            have c8b0 : decide (12 < (l0.length : Int)) = true := decide_eq_true c8
            have c8b1 : decide (12 < l0.length) = true := decide_eq_true (by omega)
            clear c8
            (first | rw [c8b0] | (simp only [i64_w, i32_w]; rw [c8b0]) | skip)
            have H' := Aside0.mk H
            clear H
            go_wp2
            go_meet
            case rel => exact ⟨_, (true), (by first | rfl | (simp; done) | (simp [*]; done)), H', ⟨by have := HJ2.out; first | omega | exact Nat.le_refl _⟩, ⟨by repeat (first | (with_reducible first | exact HB.out | apply below_alloc | apply pw_below_drewN | apply below_drew1) | exact HB.out)⟩⟩
          · rw [if_neg c8] at H
            have c8b0 : decide (12 < (l0.length : Int)) = false := decide_eq_false c8
            have c8b1 : decide (12 < l0.length) = false := decide_eq_false (by omega)
            clear c8
            (first | rw [c8b0] | (simp only [i64_w, i32_w]; rw [c8b0]) | skip)
            replace H := Option.bind_eq_some_iff.mp H
            obtain ⟨t103, A90, H⟩ := H
            replace H : (laws_FnOlderNewer.j1 kj2 l0 a1 (!t103)) = some r := H
            have A9 := Aside0.mk A90
            clear A90
            have H' := Aside0.mk H
            clear H
            go_wp2_with (first | (go_at_call 8; (with_reducible refine (spec_ASCII.calls kj2 a1 t103 _ A9.out).mono ?_); rintro e w' ⟨rfl, ⟨nd, rfl⟩⟩))
            go_meet
            case rel => exact ⟨_, (!t103), (by first | rfl | (simp; done) | (simp [*]; done)), H', ⟨by have := HJ2.out; first | omega | exact Nat.le_refl _⟩, ⟨by repeat (first | (with_reducible first | exact HB.out | apply below_alloc | apply pw_below_drewN | apply below_drew1) | exact HB.out)⟩⟩
        case rest =>
          clear HC7
          try clear p2
          try clear c4
          try clear c5
          try clear c6
          try clear c7
          try clear c8
          try clear c8b0
          try clear c8b1
          try clear p2
          obtain ⟨kq, x30_6, rfl, HA, HJ6, HB⟩ := hcut
          cases kq with
          | zero => exact absurd HA.out (by simp [laws_FnOlderNewer.j1])
          | succ kj6 =>
            have H := HA.out
            clear HA
            simp only [laws_FnOlderNewer.j1] at H
            by_cases c10 : x30_6 = true
            · subst c10
              have H1 : (some true) = some r := by rw [if_pos rfl] at H; exact H
              clear H
              have H := H1
              clear H1
              obtain rfl := Option.some.inj H
              go_wp2
              go_ret
              exact ⟨by first | rfl | (simp [errW_none, errW_some] <;> rfl) | (simp [*, errW_none, errW_some] <;> rfl), by repeat (first | (with_reducible first | exact HB.out | apply below_alloc | apply pw_below_drewN | apply below_drew1) | exact HB.out)⟩
            · replace c10 := Bool.eq_false_iff.mpr c10
              subst c10
              have H1 : (laws_FnOlderNewer.l0 kj6 l0 a1 ([] : List (S27)) 0) = some r := by rw [if_neg (show ¬ (false = true) by decide)] at H; exact H
              clear H
              have H := H1
              clear H1
              have H' := Aside0.mk H
              clear H
              go_wp2
              go_loopg [5, 6] kj6 (fun kq v5 v6 w' => ∃ (x5_3 : List (S27)) (x6_3 : Int), v6 = .int .i64 x6_3 ∧ Aside0 (laws_FnOlderNewer.l0 kq l0 a1 x5_3 x6_3 = some r) ∧ Aside0 (kq ≤ kj6) ∧ Aside0 (Kd.R k27 27 w' w.heap.size (fun _ => True) v5 x5_3) ∧ Aside0 (Below w.heap.size w w'))
              case atStart => exact ⟨(([] : List (S27))), (0), (by first | rfl | (simp; done) | (simp [*]; done)), H', ⟨Nat.le_refl _⟩, ⟨by first | exact Kd.R_nil _ _ _ _ _ | exact Kd.N_nil _ _ _ _ _ | exact Kd.V_nil _ _ _ _ _ | exact Kd.Q_nil _ _ _ _ _ | exact Kd.S_nil _ _ _ _ _⟩, ⟨by repeat (first | (with_reducible first | exact HB.out | apply below_alloc | apply pw_below_drewN | apply below_drew1) | exact HB.out)⟩⟩
              case round =>
                clear H'
                try clear c1
                try clear p2
                try clear c4
                try clear c5
                try clear c6
                try clear c7
                try clear c8
                try clear c8b0
                try clear c8b1
                try clear c10
                try clear p2
                obtain ⟨x5_3, x6_3, rfl, HA, HK3, HO_5, HB⟩ := hrel
                cases gk with
                | zero => exact absurd HA.out (by simp [laws_FnOlderNewer.l0])
                | succ k3 =>
                  have H := HA.out
                  clear HA
                  simp only [laws_FnOlderNewer.l0] at H
                  by_cases c11 : x6_3 < (l0.length : Int)
                  · rw [if_pos c11] at H
                    have c11b0 : decide (x6_3 < (l0.length : Int)) = true := decide_eq_true c11
                    clear c11
                    by_cases c12 : 0 ≤ x6_3
                    · rw [if_pos c12] at H
                      have c12b0 : decide (0 ≤ x6_3) = true := decide_eq_true c12
                      clear c12
                      replace H := Option.bind_eq_some_iff.mp H
                      obtain ⟨t105, A130, H⟩ := H
                      replace H : (if t105 = true then (if x5_3.length < 5864062014805 then (laws_FnOlderNewer.l0 k3 l0 a1 (x5_3 ++ [(⟨1, rdOf ByteArray.empty l0 x6_3⟩ : S27)]) (wrap64 (x6_3 + 1))) else (none)) else (some true)) = some r := H
                      have A13 := Aside0.mk A130
                      clear A130
                      by_cases c14 : t105 = true
                      · subst c14
                        have H1 : (if x5_3.length < 5864062014805 then (laws_FnOlderNewer.l0 k3 l0 a1 (x5_3 ++ [(⟨1, rdOf ByteArray.empty l0 x6_3⟩ : S27)]) (wrap64 (x6_3 + 1))) else (none)) = some r := by rw [if_pos rfl] at H; exact H
                        clear H
                        have H := H1
                        clear H1
                        by_cases c15 : x5_3.length < 5864062014805
                        · rw [if_pos c15] at H
                          have LMc15 := Aside0.mk c15
                          clear c15
                          obtain ⟨y107, hy107⟩ : ∃ y_ : List (S27), y_ = (x5_3 ++ [(⟨1, rdOf ByteArray.empty l0 x6_3⟩ : S27)]) := ⟨_, rfl⟩
                          replace H : (laws_FnOlderNewer.l0 k3 l0 a1 y107 (wrap64 (x6_3 + 1))) = some r := by first | (rw [hy107]; with_reducible exact H) | (have H2_ := (Option.bind_some _ _).symm.trans H; rw [hy107]; with_reducible exact H2_) | (have H2_ := (Option.bind_some _ _).symm.trans H; with_reducible exact H2_) | with_reducible exact H | (rw [hy107]; exact H) | exact H
                          have Ny107 := Aside0.mk hy107
                          clear hy107
                          have H' := Aside0.mk H
                          clear H
                          have p104 : 0 ≤ (x6_3 : Int) := of_decide_eq_true (by first | (with_reducible assumption) | assumption)
                          have q104 : x6_3 < (l0.length : Int) := of_decide_eq_true (by first | (with_reducible assumption) | assumption)
                          obtain ⟨ad104, e104, hx104_0⟩ := Kd.at_string HR0.out x6_3 p104 q104
                          cases e104
                          replace hx104_0 := (HB.out.cell (World.block_lt_of_cell? w _ hx104_0)).trans hx104_0
                          replace p104 := eq_true p104
                          replace q104 := eq_true q104
                          go_wp2_with (first | ((with_reducible refine gate_callee (f := 8) rfl ?_); refine goesL_ (some 41) rfl rfl Try.func8 (by kernel_rfl) rfl #[.string (rdOf ByteArray.empty l0 x6_3)] rfl (by (try simp only [List.map_toArray, List.map_cons, List.map_nil]); first | done | rfl | (simp only [List.length_drop, List.length_take]; rfl) | (simp only [Int.toNat_natCast, ByteArray.extract_zero_size]; rfl)) ?_; (with_reducible refine (spec_ASCII.calls k3 (rdOf ByteArray.empty l0 x6_3) true _ A13.out).mono ?_); rintro e w' ⟨rfl, ⟨nd, rfl⟩⟩; refine ⟨_, rfl, ?_⟩; have p106 : 0 ≤ (x6_3 : Int) := of_decide_eq_true (by first | (with_reducible assumption) | assumption); have q106 : x6_3 < (l0.length : Int) := of_decide_eq_true (by first | (with_reducible assumption) | assumption); obtain ⟨ad106, e106, hx106_0⟩ := Kd.at_string HR0.out x6_3 p106 q106; obtain rfl : ad104 = ad106 := (by injection e106); replace hx106_0 := (HB.out.cell (World.block_lt_of_cell? w _ hx106_0)).trans hx106_0; replace p106 := eq_true p106; replace q106 := eq_true q106) | ((with_reducible refine gate_builtin (b := .append) (xs := #[.tmp 43, .tmp 49]) rfl ?_); (try (refine gate_guard (by rfl) ?_; dsimp only)); at_builtin; refine Kd.R_append k27 (w0 := w) w.heap.size rfl (.tmp 43) (.tmp 49) 25 27 (.agg #[(.int .i64 0), (.string ⟨#[]⟩)]) 24 rfl Try.underlying25 info27 rfl (by decide) (by omega) u5 x5_3 (⟨1, rdOf ByteArray.empty l0 x6_3⟩ : S27) [.int .i64 1, .string (rdOf ByteArray.empty l0 x6_3)] (fun _ => True) (fun _ => False) rfl rfl ?aP (fun _ hk => hk.elim) ?aF ?aO ?aB ?aS ?aL ?_; (case aP => exact k27_mkM _ _ _ (⟨1, rdOf ByteArray.empty l0 x6_3⟩ : S27)); (case aB => exact (by repeat (first | (with_reducible first | exact HB.out | apply below_alloc | apply pw_below_drewN | apply below_drew1) | exact HB.out))); (case aF => exact (fun _ _ => trivial)); (case aO => exact (by (with_reducible repeat (first | apply Kd.R_alloc | apply Kd.R_drewN | apply Kd.R_drew)); exact HO_5.out)); (case aS => exact (below_size (by repeat (first | (with_reducible first | exact HB.out | apply below_alloc | apply pw_below_drewN | apply below_drew1) | exact HB.out)))); (case aL => have := LMc15.out; omega); intro v108 w16 ho hb hg hat; rw [← Ny107.out] at ho; have n0_ := Aside0.mk (hb); have n1_ := Aside0.mk (ho); clear HB; clear HO_5; have HB := n0_; have HO109 := n1_; clear n0_ n1_; clear ho hb hg hat))
                          go_roundg k3
                          case measure => have := HJ2.out; have := HJ6.out; have := HK3.out; omega
                          case rel => exact ⟨(y107), (wrap64 (x6_3 + 1)), (by first | rfl | (simp; done) | (simp [*]; done)), H', ⟨by have := HJ2.out; have := HJ6.out; have := HK3.out; omega⟩, ⟨by (with_reducible repeat (first | apply Kd.R_alloc | apply Kd.R_drewN | apply Kd.R_drew)); exact HO109.out⟩, ⟨by repeat (first | (with_reducible first | exact HB.out | apply below_alloc | apply pw_below_drewN | apply below_drew1) | exact HB.out)⟩⟩
                        · rw [if_neg c15] at H
                          exact absurd H (by simp)
                      · replace c14 := Bool.eq_false_iff.mpr c14
                        subst c14
                        have H1 : (some true) = some r := by rw [if_neg (show ¬ (false = true) by decide)] at H; exact H
                        clear H
                        have H := H1
                        clear H1
                        obtain rfl := Option.some.inj H
                        have p104 : 0 ≤ (x6_3 : Int) := of_decide_eq_true (by first | (with_reducible assumption) | assumption)
                        have q104 : x6_3 < (l0.length : Int) := of_decide_eq_true (by first | (with_reducible assumption) | assumption)
                        obtain ⟨ad104, e104, hx104_0⟩ := Kd.at_string HR0.out x6_3 p104 q104
                        cases e104
                        replace hx104_0 := (HB.out.cell (World.block_lt_of_cell? w _ hx104_0)).trans hx104_0
                        replace p104 := eq_true p104
                        replace q104 := eq_true q104
                        go_wp2_with (first | ((with_reducible refine gate_callee (f := 8) rfl ?_); refine goesL_ (some 41) rfl rfl Try.func8 (by kernel_rfl) rfl #[.string (rdOf ByteArray.empty l0 x6_3)] rfl (by (try simp only [List.map_toArray, List.map_cons, List.map_nil]); first | done | rfl | (simp only [List.length_drop, List.length_take]; rfl) | (simp only [Int.toNat_natCast, ByteArray.extract_zero_size]; rfl)) ?_; (with_reducible refine (spec_ASCII.calls k3 (rdOf ByteArray.empty l0 x6_3) false _ A13.out).mono ?_); rintro e w' ⟨rfl, ⟨nd, rfl⟩⟩; refine ⟨_, rfl, ?_⟩))
                        go_ret
                        exact ⟨by first | rfl | (simp [errW_none, errW_some] <;> rfl) | (simp [*, errW_none, errW_some] <;> rfl), by repeat (first | (with_reducible first | exact HB.out | apply below_alloc | apply pw_below_drewN | apply below_drew1) | exact HB.out)⟩
                    · rw [if_neg c12] at H
                      exact absurd H (by simp)
                  · rw [if_neg c11] at H
                    have c11b0 : decide (x6_3 < (l0.length : Int)) = false := decide_eq_false c11
                    clear c11
                    by_cases c17 : x5_3.length < 5864062014805
                    · rw [if_pos c17] at H
                      have LMc17 := Aside0.mk c17
                      clear c17
                      obtain ⟨y110, hy110⟩ : ∃ y_ : List (S27), y_ = (x5_3 ++ [(⟨4, (⟨#[]⟩ : ByteArray)⟩ : S27)]) := ⟨_, rfl⟩
                      replace H : (laws_FnOlderNewer.l1 k3 l0 a1 y110 a1 (wrap64 ((l0.length : Int) - 1))) = some r := by first | (rw [hy110]; with_reducible exact H) | (have H2_ := (Option.bind_some _ _).symm.trans H; rw [hy110]; with_reducible exact H2_) | (have H2_ := (Option.bind_some _ _).symm.trans H; with_reducible exact H2_) | with_reducible exact H | (rw [hy110]; exact H) | exact H
                      have Ny110 := Aside0.mk hy110
                      clear hy110
                      have H' := Aside0.mk H
                      clear H
                      go_wp2_with (first | ((with_reducible refine gate_builtin (b := .append) (xs := #[.tmp 51, .tmp 53]) rfl ?_); (try (refine gate_guard (by rfl) ?_; dsimp only)); at_builtin; refine Kd.R_append k27 (w0 := w) w.heap.size rfl (.tmp 51) (.tmp 53) 25 27 (.agg #[(.int .i64 0), (.string ⟨#[]⟩)]) 24 rfl Try.underlying25 info27 rfl (by decide) (by omega) u5 x5_3 (⟨4, (⟨#[]⟩ : ByteArray)⟩ : S27) [.int .i64 4, .string (⟨#[]⟩ : ByteArray)] (fun _ => True) (fun _ => False) rfl rfl ?aP (fun _ hk => hk.elim) ?aF ?aO ?aB ?aS ?aL ?_; (case aP => exact k27_mkM _ _ _ (⟨4, (⟨#[]⟩ : ByteArray)⟩ : S27)); (case aB => exact (by repeat (first | (with_reducible first | exact HB.out | apply below_alloc | apply pw_below_drewN | apply below_drew1) | exact HB.out))); (case aF => exact (fun _ _ => trivial)); (case aO => exact (by (with_reducible repeat (first | apply Kd.R_alloc | apply Kd.R_drewN | apply Kd.R_drew)); exact HO_5.out)); (case aS => exact (below_size (by repeat (first | (with_reducible first | exact HB.out | apply below_alloc | apply pw_below_drewN | apply below_drew1) | exact HB.out)))); (case aL => have := LMc17.out; omega); intro v111 w18 ho hb hg hat; rw [← Ny110.out] at ho; have n0_ := Aside0.mk (hb); have n1_ := Aside0.mk (ho); clear HB; clear HO_5; have HB := n0_; have HO112 := n1_; clear n0_ n1_; clear ho hb hg hat))
                      go_loopg [5, 7, 8] k3 (fun kq v5 v7 v8 w' => ∃ (x5_4 : List (S27)) (x7_4 : ByteArray) (x8_4 : Int), v7 = .string x7_4 ∧ v8 = .int .i64 x8_4 ∧ Aside0 (laws_FnOlderNewer.l1 kq l0 a1 x5_4 x7_4 x8_4 = some r) ∧ Aside0 (kq ≤ k3) ∧ Aside0 (Kd.R k27 27 w' w.heap.size (fun _ => True) v5 x5_4) ∧ Aside0 (Below w.heap.size w w'))
                      case atStart => exact ⟨(y110), (a1), (wrap64 ((l0.length : Int) - 1)), (by first | rfl | (simp; done) | (simp [*]; done)), (by first | rfl | (simp; done) | (simp [*]; done)), H', ⟨Nat.le_refl _⟩, ⟨by (with_reducible repeat (first | apply Kd.R_alloc | apply Kd.R_drewN | apply Kd.R_drew)); exact HO112.out⟩, ⟨by repeat (first | (with_reducible first | exact HB.out | apply below_alloc | apply pw_below_drewN | apply below_drew1) | exact HB.out)⟩⟩
                      case round =>
                        clear H'
                        try clear c1
                        try clear p1
                        try clear q1
                        try clear hx1
                        try clear p2
                        try clear c4
                        try clear c5
                        try clear c6
                        try clear p6
                        try clear c7
                        try clear c8
                        try clear c8b0
                        try clear c8b1
                        try clear c10
                        try clear p10
                        try clear q10
                        try clear hx10
                        try clear c11
                        try clear c11b0
                        try clear c12
                        try clear c12b0
                        try clear c14
                        try clear c15
                        try clear c17
                        try clear hx104_0
                        try clear hx106_0
                        try clear p104
                        try clear p106
                        try clear p2
                        try clear q104
                        try clear q106
                        obtain ⟨x5_4, x7_4, x8_4, rfl, rfl, HA, HK4, HO_5, HB⟩ := hrel
                        cases gk with
                        | zero => exact absurd HA.out (by simp [laws_FnOlderNewer.l1])
                        | succ k4 =>
                          have H := HA.out
                          clear HA
                          simp only [laws_FnOlderNewer.l1] at H
                          by_cases c19 : x8_4 ≥ 0
                          · rw [if_pos c19] at H
                            have c19b0 : decide (0 ≤ x8_4) = true := decide_eq_true c19
                            clear c19
                            by_cases c20 : x5_4.length < 5864062014805
                            · rw [if_pos c20] at H
                              have LMc20 := Aside0.mk c20
                              clear c20
                              obtain ⟨y113, hy113⟩ : ∃ y_ : List (S27), y_ = (x5_4 ++ [(⟨2, x7_4⟩ : S27)]) := ⟨_, rfl⟩
                              replace H : (if 0 ≤ x8_4 then (if x8_4 < (l0.length : Int) then (laws_FnOlderNewer.l1 k4 l0 a1 y113 (rdOf ByteArray.empty l0 x8_4) (wrap64 (x8_4 - 1))) else (none)) else (none)) = some r := by first | (rw [hy113]; with_reducible exact H) | (have H2_ := (Option.bind_some _ _).symm.trans H; rw [hy113]; with_reducible exact H2_) | (have H2_ := (Option.bind_some _ _).symm.trans H; with_reducible exact H2_) | with_reducible exact H | (rw [hy113]; exact H) | exact H
                              have Ny113 := Aside0.mk hy113
                              clear hy113
                              by_cases c21 : 0 ≤ x8_4
                              · rw [if_pos c21] at H
                                have c21b0 : decide (0 ≤ x8_4) = true := decide_eq_true c21
                                clear c21
                                by_cases c22 : x8_4 < (l0.length : Int)
                                · rw [if_pos c22] at H
                                  have c22b0 : decide (x8_4 < (l0.length : Int)) = true := decide_eq_true c22
                                  clear c22
                                  have H' := Aside0.mk H
                                  clear H
                                  try go_wp2
                                  have n0_ := Aside0.mk (Kd.R_drew HO_5.out)
                                  have n1_ := Aside0.mk (below_drew1 HB.out)
                                  clear HO_5
                                  clear HB
                                  have HO_5 := n0_
                                  have HB := n1_
                                  clear n0_ n1_
                                  have p116 : 0 ≤ (x8_4 : Int) := of_decide_eq_true (by first | (with_reducible assumption) | assumption)
                                  have q116 : x8_4 < (l0.length : Int) := of_decide_eq_true (by first | (with_reducible assumption) | assumption)
                                  obtain ⟨ad116, e116, hx116_0⟩ := Kd.at_string HR0.out x8_4 p116 q116
                                  have hw116_0 := hx116_0
                                  cases e116
                                  replace hx116_0 := (HB.out.cell (World.block_lt_of_cell? w _ hx116_0)).trans hx116_0
                                  replace p116 := eq_true p116
                                  replace q116 := eq_true q116
                                  refine start_ (n := 11) (S := fun w' => w'.cell? (ad116.add (x8_4).toNat) = some (.string (rdOf ByteArray.empty l0 x8_4))) (ds := []) #[false, false, false, false, false, false, false, false, false, false, false] (by kernel_rfl) rfl rfl (((HB.out.cell (World.block_lt_of_cell? w _ hw116_0)).trans hw116_0)) (fun hHeld => ?_); refine with_tabW laws_FnOlderNewer.tab17 laws_FnOlderNewer.bits17 (fun HT_ HW_ => ?_)
                                  generalize wr.drew = w23 at HO_5 HB hx116_0 hHeld ⊢
                                  refine pure_ (i := 0) (N := some 63) (v := ?_) (a' := ?_) #[true, false, false, false, false, false, false, false, false, false, false] rfl rfl (any_of HT_.out (by kernel_rfl)) (fun _ _ _ h => h) (Or.inl ⟨by rfl, ?_⟩) ?_ ?_
                                  rotate_left
                                  · intro w'
                                    go_simp
                                    with_reducible rfl
                                  rotate_left
                                  · simp only [Act.put, List.setIfInBounds_toArray, List.set_cons_zero, List.set_cons_succ, i64_w, i32_w]
                                    rfl
                                  refine pure_ (i := 1) (N := some 64) (v := ?_) (a' := ?_) #[true, true, false, false, false, false, false, false, false, false, false] rfl rfl (any_of HT_.out (by kernel_rfl)) (fun _ _ _ h => h) (Or.inl ⟨by rfl, ?_⟩) ?_ ?_
                                  rotate_left
                                  · intro w'
                                    go_simp
                                    with_reducible rfl
                                  rotate_left
                                  · simp only [Act.put, List.setIfInBounds_toArray, List.set_cons_zero, List.set_cons_succ, i64_w, i32_w]
                                    rfl
                                  refine pure_ (i := 2) (N := some 65) (v := ?_) (a' := ?_) #[true, true, true, false, false, false, false, false, false, false, false] rfl rfl (any_of HT_.out (by kernel_rfl)) (fun _ _ _ h => h) (Or.inl ⟨by rfl, ?_⟩) ?_ ?_
                                  rotate_left
                                  · intro w'
                                    go_simp
                                    with_reducible rfl
                                  rotate_left
                                  · simp only [Act.put, List.setIfInBounds_toArray, List.set_cons_zero, List.set_cons_succ, i64_w, i32_w]
                                    rfl
                                  refine pure_ (i := 5) (N := some 68) (v := ?_) (a' := ?_) #[true, true, true, false, false, true, false, false, false, false, false] rfl rfl (any_of HT_.out (by kernel_rfl)) (fun _ _ _ h => h) (Or.inl ⟨by rfl, ?_⟩) ?_ ?_
                                  rotate_left
                                  · intro w'
                                    go_simp
                                    with_reducible rfl
                                  rotate_left
                                  · simp only [Act.put, List.setIfInBounds_toArray, List.set_cons_zero, List.set_cons_succ, i64_w, i32_w]
                                    rfl
                                  refine pure_ (i := 6) (N := some 69) (v := ?_) (a' := ?_) #[true, true, true, false, false, true, true, false, false, false, false] rfl rfl (any_of HT_.out (by kernel_rfl)) (fun _ _ _ h => h) (Or.inl ⟨by rfl, ?_⟩) ?_ ?_
                                  rotate_left
                                  · intro w'
                                    go_simp
                                    with_reducible rfl
                                  rotate_left
                                  · simp only [Act.put, List.setIfInBounds_toArray, List.set_cons_zero, List.set_cons_succ, i64_w, i32_w]
                                    rfl
                                  refine pure_ (i := 7) (N := some 70) (v := ?_) (a' := ?_) #[true, true, true, false, false, true, true, true, false, false, false] rfl rfl (any_of HT_.out (by kernel_rfl)) (fun _ _ _ h => h) (Or.inl ⟨by rfl, ?_⟩) ?_ ?_
                                  rotate_left
                                  · intro w'
                                    go_simp
                                    with_reducible rfl
                                  rotate_left
                                  · simp only [Act.put, List.setIfInBounds_toArray, List.set_cons_zero, List.set_cons_succ, i64_w, i32_w]
                                    rfl
                                  refine take_ (i := 8) (N := some 71) (v := ?_) (a' := ?_) #[true, true, true, false, false, true, true, true, true, false, false] rfl rfl (take_ofW HT_.out HW_.out (by kernel_rfl)) (fun _ _ _ h => h) (Or.inl ⟨by rfl, ?_⟩) hHeld ?_ ?_
                                  rotate_left
                                  · intro w' s0
                                    go_simp
                                    with_reducible rfl
                                  rotate_left
                                  · simp only [Act.put, List.setIfInBounds_toArray, List.set_cons_zero, List.set_cons_succ, i64_w, i32_w]
                                    rfl
                                  refine one_ (i := 3) (N := some 66) #[true, true, true, true, false, true, true, true, true, false, false] rfl rfl (one_of HT_.out (by kernel_rfl)) (by decide) (fun K hK => ?_)
                                  refine value_ (w1 := ?_) (v := ?_) (by rfl) rfl ?_ ?_
                                  rotate_left 2
                                  · go_simp
                                    constructor
                                    · rfl
                                    · rfl
                                  refine hK.out _ _ ((World.cell?_alloc_lt _ _ _ (World.block_lt_of_cell? _ _ (((HB.out.cell (World.block_lt_of_cell? w _ hw116_0)).trans hw116_0)))).trans (((HB.out.cell (World.block_lt_of_cell? w _ hw116_0)).trans hw116_0))) (fun hHeld => ?_)
                                  clear hK K
                                  refine norm_ (a' := ?_) ?_ ?_
                                  rotate_left
                                  · show Act.put _ (some 66) _ = _
                                    simp only [Act.put, List.setIfInBounds_toArray, List.set_cons_zero, List.set_cons_succ, i64_w, i32_w]
                                    rfl
                                  refine one_ (i := 4) (N := some 67) #[true, true, true, true, true, true, true, true, true, false, false] rfl rfl (one_of HT_.out (by kernel_rfl)) (by decide) (fun K hK => ?_)
                                  refine Kd.R_append_step k27 (w0 := w) w.heap.size (by rfl) (.tmp 63) (.tmp 66) 25 27 (.agg #[(.int .i64 0), (.string ⟨#[]⟩)]) 24 rfl Try.underlying25 info27 rfl (by decide) (by omega) u5 x5_4 (⟨2, x7_4⟩ : S27) [.int .i64 2, .string x7_4] (fun _ => True) (fun _ => False) rfl rfl ?aP (fun _ hk => hk.elim) ?aF ?aO ?aB ?aS ?aL ?_
                                  (case aP => exact k27_mkM _ _ _ (⟨2, x7_4⟩ : S27))
                                  (case aB => exact (by repeat (first | (with_reducible first | exact HB.out | apply below_alloc | apply pw_below_drewN | apply below_drew1) | exact HB.out)))
                                  (case aF => exact (fun _ _ => trivial))
                                  (case aO => exact (by (with_reducible repeat (first | apply Kd.R_alloc | apply Kd.R_drewN | apply Kd.R_drew)); exact HO_5.out))
                                  (case aS => exact (below_size (by repeat (first | (with_reducible first | exact HB.out | apply below_alloc | apply pw_below_drewN | apply below_drew1) | exact HB.out))))
                                  (case aL => have := LMc20.out; omega)
                                  intro v114 w24 ho hb hg hat
                                  rw [← Ny113.out] at ho
                                  have n0_ := Aside0.mk (hb)
                                  have n1_ := Aside0.mk (ho)
                                  clear HB
                                  clear HO_5
                                  have HB := n0_
                                  have HO115 := n1_
                                  clear n0_ n1_
                                  clear ho hb hg hat
                                  refine hK.out _ _ (((HB.out.cell (World.block_lt_of_cell? w _ hw116_0)).trans hw116_0)) (fun hHeld => ?_)
                                  clear hK K
                                  refine norm_ (a' := ?_) ?_ ?_
                                  rotate_left
                                  · show Act.put _ (some 67) _ = _
                                    simp only [Act.put, List.setIfInBounds_toArray, List.set_cons_zero, List.set_cons_succ, i64_w, i32_w]
                                    rfl
                                  refine pure_ (i := 9) (N := some 5) (v := ?_) (a' := ?_) #[true, true, true, true, true, true, true, true, true, true, false] rfl rfl (any_of HT_.out (by kernel_rfl)) (fun _ _ _ h => h) (Or.inl ⟨by rfl, ?_⟩) ?_ ?_
                                  rotate_left
                                  · intro w'
                                    go_simp
                                    with_reducible rfl
                                  rotate_left
                                  · simp only [Act.put, List.setIfInBounds_toArray, List.set_cons_zero, List.set_cons_succ, i64_w, i32_w]
                                    rfl
                                  refine pure_ (i := 10) (N := some 7) (v := ?_) (a' := ?_) #[true, true, true, true, true, true, true, true, true, true, true] rfl rfl (any_of HT_.out (by kernel_rfl)) (fun _ _ _ h => h) (Or.inl ⟨by rfl, ?_⟩) ?_ ?_
                                  rotate_left
                                  · intro w'
                                    go_simp
                                    with_reducible rfl
                                  rotate_left
                                  · simp only [Act.put, List.setIfInBounds_toArray, List.set_cons_zero, List.set_cons_succ, i64_w, i32_w]
                                    rfl
                                  refine done_ (done_of HT_.out (by kernel_rfl)) ?_
                                  try go_wp2
                                  go_roundg k4
                                  case measure => have := HJ2.out; have := HJ6.out; have := HK3.out; have := HK4.out; omega
                                  case rel => exact ⟨(y113), (rdOf ByteArray.empty l0 x8_4), (wrap64 (x8_4 - 1)), (by first | rfl | (simp; done) | (simp [*]; done)), (by first | rfl | (simp; done) | (simp [*]; done)), H', ⟨by have := HJ2.out; have := HJ6.out; have := HK3.out; have := HK4.out; omega⟩, ⟨by (with_reducible repeat (first | apply Kd.R_alloc | apply Kd.R_drewN | apply Kd.R_drew)); exact HO115.out⟩, ⟨by repeat (first | (with_reducible first | exact HB.out | apply below_alloc | apply pw_below_drewN | apply below_drew1) | exact HB.out)⟩⟩
                                · rw [if_neg c22] at H
                                  exact absurd H (by simp)
                              · rw [if_neg c21] at H
                                exact absurd H (by simp)
                            · rw [if_neg c20] at H
                              exact absurd H (by simp)
                          · rw [if_neg c19] at H
                            have c19b0 : decide (0 ≤ x8_4) = false := decide_eq_false c19
                            clear c19
                            have H' := Aside0.mk H
                            clear H
                            go_wp2
                            go_loopg [5, 7, 9] k4 (fun kq v5 v7 v9 w' => ∃ (x5_5 : List (S27)) (x7_5 : ByteArray) (x9_5 : Int), v7 = .string x7_5 ∧ v9 = .int .i64 x9_5 ∧ Aside0 (laws_FnOlderNewer.l2 kq l0 a1 x5_5 x7_5 x9_5 = some r) ∧ Aside0 (kq ≤ k4) ∧ Aside0 (Kd.R k27 27 w' w.heap.size (fun _ => True) v5 x5_5) ∧ Aside0 (Below w.heap.size w w'))
                            case atStart => exact ⟨(x5_4), (x7_4), (1), (by first | rfl | (simp; done) | (simp [*]; done)), (by first | rfl | (simp; done) | (simp [*]; done)), H', ⟨Nat.le_refl _⟩, ⟨by (with_reducible repeat (first | apply Kd.R_alloc | apply Kd.R_drewN | apply Kd.R_drew)); exact HO_5.out⟩, ⟨by repeat (first | (with_reducible first | exact HB.out | apply below_alloc | apply pw_below_drewN | apply below_drew1) | exact HB.out)⟩⟩
                            case round =>
                              clear H'
                              try clear c1
                              try clear p1
                              try clear q1
                              try clear hx1
                              try clear c2
                              try clear p2
                              try clear c4
                              try clear c5
                              try clear c6
                              try clear p6
                              try clear c7
                              try clear c8
                              try clear c8b0
                              try clear c8b1
                              try clear c10
                              try clear p10
                              try clear q10
                              try clear hx10
                              try clear c11
                              try clear c11b0
                              try clear p11
                              try clear q11
                              try clear hx11
                              try clear c12
                              try clear c12b0
                              try clear c14
                              try clear c15
                              try clear c17
                              try clear c19
                              try clear c19b0
                              try clear c20
                              try clear c21
                              try clear c21b0
                              try clear c22
                              try clear c22b0
                              try clear hx104_0
                              try clear hx106_0
                              try clear hx116_0
                              try clear p1
                              try clear p10
                              try clear p104
                              try clear p106
                              try clear p116
                              try clear p2
                              try clear p6
                              try clear q1
                              try clear q10
                              try clear q104
                              try clear q106
                              try clear q116
                              obtain ⟨x5_5, x7_5, x9_5, rfl, rfl, HA, HK5, HO_5, HB⟩ := hrel
                              cases gk with
                              | zero => exact absurd HA.out (by simp [laws_FnOlderNewer.l2])
                              | succ k5 =>
                                have H := HA.out
                                clear HA
                                simp only [laws_FnOlderNewer.l2] at H
                                by_cases c25 : x9_5 ≤ (l0.length : Int)
                                · rw [if_pos c25] at H
                                  have c25b0 : decide (x9_5 ≤ (l0.length : Int)) = true := decide_eq_true c25
                                  clear c25
                                  by_cases c26 : x5_5.length < 5864062014805
                                  · rw [if_pos c26] at H
                                    have LMc26 := Aside0.mk c26
                                    clear c26
                                    obtain ⟨y117, hy117⟩ : ∃ y_ : List (S27), y_ = (x5_5 ++ [(⟨3, x7_5⟩ : S27)]) := ⟨_, rfl⟩
                                    replace H : (if x9_5 < (l0.length : Int) then (if 0 ≤ x9_5 then (laws_FnOlderNewer.l2 k5 l0 a1 y117 (rdOf ByteArray.empty l0 x9_5) (wrap64 (x9_5 + 1))) else (none)) else (laws_FnOlderNewer.l2 k5 l0 a1 y117 x7_5 (wrap64 (x9_5 + 1)))) = some r := by first | (rw [hy117]; with_reducible exact H) | (have H2_ := (Option.bind_some _ _).symm.trans H; rw [hy117]; with_reducible exact H2_) | (have H2_ := (Option.bind_some _ _).symm.trans H; with_reducible exact H2_) | with_reducible exact H | (rw [hy117]; exact H) | exact H
                                    have Ny117 := Aside0.mk hy117
                                    clear hy117
                                    by_cases c27 : x9_5 < (l0.length : Int)
                                    · rw [if_pos c27] at H
                                      have c27b0 : decide (x9_5 < (l0.length : Int)) = true := decide_eq_true c27
                                      clear c27
                                      by_cases c28 : 0 ≤ x9_5
                                      · rw [if_pos c28] at H
                                        have c28b0 : decide (0 ≤ x9_5) = true := decide_eq_true c28
                                        clear c28
                                        have H' := Aside0.mk H
                                        clear H
                                        go_wp2_with (first | ((with_reducible refine gate_builtin (b := .append) (xs := #[.tmp 78, .tmp 81]) rfl ?_); (try (refine gate_guard (by rfl) ?_; dsimp only)); at_builtin; refine Kd.R_append k27 (w0 := w) w.heap.size rfl (.tmp 78) (.tmp 81) 25 27 (.agg #[(.int .i64 0), (.string ⟨#[]⟩)]) 24 rfl Try.underlying25 info27 rfl (by decide) (by omega) u5 x5_5 (⟨3, x7_5⟩ : S27) [.int .i64 3, .string x7_5] (fun _ => True) (fun _ => False) rfl rfl ?aP (fun _ hk => hk.elim) ?aF ?aO ?aB ?aS ?aL ?_; (case aP => exact k27_mkM _ _ _ (⟨3, x7_5⟩ : S27)); (case aB => exact (by repeat (first | (with_reducible first | exact HB.out | apply below_alloc | apply pw_below_drewN | apply below_drew1) | exact HB.out))); (case aF => exact (fun _ _ => trivial)); (case aO => exact (by (with_reducible repeat (first | apply Kd.R_alloc | apply Kd.R_drewN | apply Kd.R_drew)); exact HO_5.out)); (case aS => exact (below_size (by repeat (first | (with_reducible first | exact HB.out | apply below_alloc | apply pw_below_drewN | apply below_drew1) | exact HB.out)))); (case aL => have := LMc26.out; omega); intro v118 w29 ho hb hg hat; rw [← Ny117.out] at ho; have n0_ := Aside0.mk (hb); have n1_ := Aside0.mk (ho); clear HB; clear HO_5; have HB := n0_; have HO119 := n1_; clear n0_ n1_; clear ho hb hg hat; have p120 : 0 ≤ (x9_5 : Int) := of_decide_eq_true (by first | (with_reducible assumption) | assumption); have q120 : x9_5 < (l0.length : Int) := of_decide_eq_true (by first | (with_reducible assumption) | assumption); obtain ⟨ad120, e120, hx120_0⟩ := Kd.at_string HR0.out x9_5 p120 q120; cases e120; replace hx120_0 := (HB.out.cell (World.block_lt_of_cell? w _ hx120_0)).trans hx120_0; replace p120 := eq_true p120; replace q120 := eq_true q120))
                                        go_roundg k5
                                        case measure => have := HJ2.out; have := HJ6.out; have := HK3.out; have := HK4.out; have := HK5.out; omega
                                        case rel => exact ⟨(y117), (rdOf ByteArray.empty l0 x9_5), (wrap64 (x9_5 + 1)), (by first | rfl | (simp; done) | (simp [*]; done)), (by first | rfl | (simp; done) | (simp [*]; done)), H', ⟨by have := HJ2.out; have := HJ6.out; have := HK3.out; have := HK4.out; have := HK5.out; omega⟩, ⟨by (with_reducible repeat (first | apply Kd.R_alloc | apply Kd.R_drewN | apply Kd.R_drew)); exact HO119.out⟩, ⟨by repeat (first | (with_reducible first | exact HB.out | apply below_alloc | apply pw_below_drewN | apply below_drew1) | exact HB.out)⟩⟩
                                      · rw [if_neg c28] at H
                                        exact absurd H (by simp)
                                    · rw [if_neg c27] at H
                                      have c27b0 : decide (x9_5 < (l0.length : Int)) = false := decide_eq_false c27
                                      clear c27
                                      have H' := Aside0.mk H
                                      clear H
                                      go_wp2_with (first | ((with_reducible refine gate_builtin (b := .append) (xs := #[.tmp 78, .tmp 81]) rfl ?_); (try (refine gate_guard (by rfl) ?_; dsimp only)); at_builtin; refine Kd.R_append k27 (w0 := w) w.heap.size rfl (.tmp 78) (.tmp 81) 25 27 (.agg #[(.int .i64 0), (.string ⟨#[]⟩)]) 24 rfl Try.underlying25 info27 rfl (by decide) (by omega) u5 x5_5 (⟨3, x7_5⟩ : S27) [.int .i64 3, .string x7_5] (fun _ => True) (fun _ => False) rfl rfl ?aP (fun _ hk => hk.elim) ?aF ?aO ?aB ?aS ?aL ?_; (case aP => exact k27_mkM _ _ _ (⟨3, x7_5⟩ : S27)); (case aB => exact (by repeat (first | (with_reducible first | exact HB.out | apply below_alloc | apply pw_below_drewN | apply below_drew1) | exact HB.out))); (case aF => exact (fun _ _ => trivial)); (case aO => exact (by (with_reducible repeat (first | apply Kd.R_alloc | apply Kd.R_drewN | apply Kd.R_drew)); exact HO_5.out)); (case aS => exact (below_size (by repeat (first | (with_reducible first | exact HB.out | apply below_alloc | apply pw_below_drewN | apply below_drew1) | exact HB.out)))); (case aL => have := LMc26.out; omega); intro v118 w30 ho hb hg hat; rw [← Ny117.out] at ho; have n0_ := Aside0.mk (hb); have n1_ := Aside0.mk (ho); clear HB; clear HO_5; have HB := n0_; have HO119 := n1_; clear n0_ n1_; clear ho hb hg hat))
                                      go_roundg k5
                                      case measure => have := HJ2.out; have := HJ6.out; have := HK3.out; have := HK4.out; have := HK5.out; omega
                                      case rel => exact ⟨(y117), (x7_5), (wrap64 (x9_5 + 1)), (by first | rfl | (simp; done) | (simp [*]; done)), (by first | rfl | (simp; done) | (simp [*]; done)), H', ⟨by have := HJ2.out; have := HJ6.out; have := HK3.out; have := HK4.out; have := HK5.out; omega⟩, ⟨by (with_reducible repeat (first | apply Kd.R_alloc | apply Kd.R_drewN | apply Kd.R_drew)); exact HO119.out⟩, ⟨by repeat (first | (with_reducible first | exact HB.out | apply below_alloc | apply pw_below_drewN | apply below_drew1) | exact HB.out)⟩⟩
                                  · rw [if_neg c26] at H
                                    exact absurd H (by simp)
                                · rw [if_neg c25] at H
                                  have c25b0 : decide (x9_5 ≤ (l0.length : Int)) = false := decide_eq_false c25
                                  clear c25
                                  replace H := Option.bind_eq_some_iff.mp H
                                  obtain ⟨⟨t121, t122⟩, A310, H⟩ := H
                                  replace H : (if (t121.length : Int) = (x5_5.length : Int) then (laws_FnOlderNewer.l3 k5 l0 a1 t121 (wrap64 ((l0.length : Int) + 1)) 0) else (some false)) = some r := H
                                  have A31 := Aside0.mk A310
                                  clear A310
                                  by_cases c32 : (t121.length : Int) = (x5_5.length : Int)
                                  · rw [if_pos c32] at H
                                    have c32b0 : ((t121.length : Int) == (x5_5.length : Int)) = true := beq_iff_eq.mpr c32
                                    have c32b1 : ((t121.length : Int) != (x5_5.length : Int)) = false := bne_eq_false_iff_eq.mpr c32
                                    have c32b2 : (t121.length == x5_5.length) = true := by first | simpa using c32 | (simp at c32 ⊢; omega)
                                    clear c32
                                    have H' := Aside0.mk H
                                    clear H
                                    obtain ⟨Ao33, co33, eo33⟩ := Kd.R_slice HO_5.out
                                    subst eo33
                                    go_wp2_with (first | ((with_reducible refine gate_callee (f := 9) rfl ?_); refine goesL_ (some 93) rfl rfl Try.func9 (by kernel_rfl) rfl #[.slice Ao33 x5_5.length co33] rfl (by (try simp only [List.map_toArray, List.map_cons, List.map_nil]); first | done | rfl | (simp only [List.length_drop, List.length_take]; rfl) | (simp only [Int.toNat_natCast, ByteArray.extract_zero_size]; rfl)) ?_; (with_reducible refine (impl_Turned.calls _ _ x5_5 t121 t122 _ ?side1 ?side2 A31.out).mono ?_); (case side1 => repeat (first | exact (Kd.R_reads' HO_5.out).2.2 | (with_reducible refine Kd.C_alloc ?_ _) | (with_reducible refine Kd.C_drewN ?_ _) | (with_reducible refine Kd.C_drew ?_))); (case side2 => exact (Kd.R_reads' HO_5.out).2.1); rintro e w34 ⟨v123, v125, rfl, ho0, ho1, hb⟩; refine ⟨_, rfl, ?_⟩; have n0_ := Aside0.mk (Kd.R_below (by (with_reducible repeat (first | apply Kd.R_alloc | apply Kd.R_drewN | apply Kd.R_drew)); exact HO_5.out) hb); have n1_ := Aside0.mk (Kd.R_lower ho0 (below_size (by repeat (first | (with_reducible first | exact HB.out | apply below_alloc | apply pw_below_drewN | apply below_drew1) | exact HB.out)))); have n2_ := Aside0.mk (Kd.R_lower ho1 (below_size (by repeat (first | (with_reducible first | exact HB.out | apply below_alloc | apply pw_below_drewN | apply below_drew1) | exact HB.out)))); have n3_ := Aside0.mk (below_step (by repeat (first | (with_reducible first | exact HB.out | apply below_alloc | apply pw_below_drewN | apply below_drew1) | exact HB.out)) hb); clear HO_5; clear HB; have HO_5 := n0_; have HO124 := n1_; have HO126 := n2_; have HB := n3_; clear n0_ n1_ n2_ n3_; (try clear hb); (try clear hb2); (try clear hk); (try clear hi); (try clear ho0); (try clear ho1); obtain ⟨Ao35, co35, eo35⟩ := Kd.R_slice HO124.out; subst eo35))
                                    go_loopg [13] k5 (fun kq v13 w' => ∃ (x13_6 : Int), v13 = .int .i64 x13_6 ∧ Aside0 (laws_FnOlderNewer.l3 kq l0 a1 t121 (wrap64 ((l0.length : Int) + 1)) x13_6 = some r) ∧ Aside0 (kq ≤ k5) ∧ Aside0 (Kd.R Kd.string 9 w' w.heap.size (fun _ => True) (.slice Ao35 t121.length co35) t121) ∧ Aside0 (Below w.heap.size w w'))
                                    case atStart => exact ⟨(0), (by first | rfl | (simp; done) | (simp [*]; done)), H', ⟨Nat.le_refl _⟩, ⟨by (with_reducible repeat (first | apply Kd.R_alloc | apply Kd.R_drewN | apply Kd.R_drew)); exact HO124.out⟩, ⟨by repeat (first | (with_reducible first | exact HB.out | apply below_alloc | apply pw_below_drewN | apply below_drew1) | exact HB.out)⟩⟩
                                    case round =>
                                      clear H'
                                      try clear c1
                                      try clear p1
                                      try clear q1
                                      try clear hx1
                                      try clear c2
                                      try clear p2
                                      try clear c3
                                      try clear c4
                                      try clear c5
                                      try clear c6
                                      try clear p6
                                      try clear c7
                                      try clear c8
                                      try clear c8b0
                                      try clear c8b1
                                      try clear c9
                                      try clear c10
                                      try clear p10
                                      try clear q10
                                      try clear hx10
                                      try clear c11
                                      try clear c11b0
                                      try clear p11
                                      try clear q11
                                      try clear hx11
                                      try clear c12
                                      try clear c12b0
                                      try clear p12
                                      try clear q12
                                      try clear hx12
                                      try clear c14
                                      try clear c15
                                      try clear c17
                                      try clear c19
                                      try clear c19b0
                                      try clear c20
                                      try clear c21
                                      try clear c21b0
                                      try clear c22
                                      try clear c22b0
                                      try clear c25
                                      try clear c25b0
                                      try clear c26
                                      try clear c27
                                      try clear c27b0
                                      try clear c28
                                      try clear c28b0
                                      try clear c32
                                      try clear c32b0
                                      try clear c32b1
                                      try clear c32b2
                                      try clear hx104_0
                                      try clear hx106_0
                                      try clear hx116_0
                                      try clear hx120_0
                                      try clear p1
                                      try clear p10
                                      try clear p104
                                      try clear p106
                                      try clear p11
                                      try clear p116
                                      try clear p120
                                      try clear p2
                                      try clear p6
                                      try clear q1
                                      try clear q10
                                      try clear q104
                                      try clear q106
                                      try clear q11
                                      try clear q116
                                      try clear q120
                                      obtain ⟨x13_6, rfl, HA, HK6, HO_10, HB⟩ := hrel
                                      cases gk with
                                      | zero => exact absurd HA.out (by simp [laws_FnOlderNewer.l3])
                                      | succ k6 =>
                                        have H := HA.out
                                        clear HA
                                        simp only [laws_FnOlderNewer.l3] at H
                                        by_cases c36 : x13_6 < (l0.length : Int)
                                        · rw [if_pos c36] at H
                                          have c36b0 : decide (x13_6 < (l0.length : Int)) = true := decide_eq_true c36
                                          clear c36
                                          obtain ⟨ji37, hji37⟩ : ∃ j_ : Int, (wrap64 ((wrap64 ((l0.length : Int) + 1)) + x13_6)) = j_ := ⟨_, rfl⟩
                                          replace H : (if 0 ≤ (ji37) then (if (ji37) < (t121.length : Int) then (if 0 ≤ (wrap64 ((wrap64 ((l0.length : Int) - 1)) - x13_6)) then (if (wrap64 ((wrap64 ((l0.length : Int) - 1)) - x13_6)) < (l0.length : Int) then (if (rdOf ByteArray.empty t121 (ji37)).toList = (rdOf ByteArray.empty l0 (wrap64 ((wrap64 ((l0.length : Int) - 1)) - x13_6))).toList then (if (wrap64 (x13_6 + 1)) < (l0.length : Int) then (if 0 ≤ (wrap64 (x13_6 + 1)) then (if 0 ≤ (wrap64 ((wrap64 ((wrap64 ((l0.length : Int) + 1)) + (l0.length : Int))) + x13_6)) then (if (wrap64 ((wrap64 ((wrap64 ((l0.length : Int) + 1)) + (l0.length : Int))) + x13_6)) < (t121.length : Int) then (if (rdOf ByteArray.empty t121 (wrap64 ((wrap64 ((wrap64 ((l0.length : Int) + 1)) + (l0.length : Int))) + x13_6))).toList = (rdOf ByteArray.empty l0 (wrap64 (x13_6 + 1))).toList then (laws_FnOlderNewer.l3 k6 l0 a1 t121 (wrap64 ((l0.length : Int) + 1)) (wrap64 (x13_6 + 1))) else (some false)) else (none)) else (none)) else (none)) else (if 0 ≤ (wrap64 ((wrap64 ((wrap64 ((l0.length : Int) + 1)) + (l0.length : Int))) + x13_6)) then (if (wrap64 ((wrap64 ((wrap64 ((l0.length : Int) + 1)) + (l0.length : Int))) + x13_6)) < (t121.length : Int) then (if (rdOf ByteArray.empty t121 (wrap64 ((wrap64 ((wrap64 ((l0.length : Int) + 1)) + (l0.length : Int))) + x13_6))).toList = a1.toList then (laws_FnOlderNewer.l3 k6 l0 a1 t121 (wrap64 ((l0.length : Int) + 1)) (wrap64 (x13_6 + 1))) else (some false)) else (none)) else (none))) else (some false)) else (none)) else (none)) else (none)) else (none)) = some r := by first | (rw [hji37] at H; exact H) | (simp only [hji37] at H ⊢; exact H)
                                          have hji37w : (IntKind.i64.wrap ((wrap64 ((l0.length : Int) + 1)) + x13_6)) = ji37 := (i64_w _).trans hji37
                                          by_cases c38 : 0 ≤ (ji37)
                                          · rw [if_pos c38] at H
                                            have c38b0 : decide (0 ≤ (ji37)) = true := decide_eq_true c38
                                            clear c38
                                            by_cases c39 : (ji37) < (t121.length : Int)
                                            · rw [if_pos c39] at H
                                              have c39b0 : decide ((ji37) < (t121.length : Int)) = true := decide_eq_true c39
                                              clear c39
                                              obtain ⟨ji40, hji40⟩ : ∃ j_ : Int, (wrap64 ((wrap64 ((l0.length : Int) - 1)) - x13_6)) = j_ := ⟨_, rfl⟩
                                              replace H : (if 0 ≤ (ji40) then (if (ji40) < (l0.length : Int) then (if (rdOf ByteArray.empty t121 (ji37)).toList = (rdOf ByteArray.empty l0 (ji40)).toList then (if (wrap64 (x13_6 + 1)) < (l0.length : Int) then (if 0 ≤ (wrap64 (x13_6 + 1)) then (if 0 ≤ (wrap64 ((wrap64 ((wrap64 ((l0.length : Int) + 1)) + (l0.length : Int))) + x13_6)) then (if (wrap64 ((wrap64 ((wrap64 ((l0.length : Int) + 1)) + (l0.length : Int))) + x13_6)) < (t121.length : Int) then (if (rdOf ByteArray.empty t121 (wrap64 ((wrap64 ((wrap64 ((l0.length : Int) + 1)) + (l0.length : Int))) + x13_6))).toList = (rdOf ByteArray.empty l0 (wrap64 (x13_6 + 1))).toList then (laws_FnOlderNewer.l3 k6 l0 a1 t121 (wrap64 ((l0.length : Int) + 1)) (wrap64 (x13_6 + 1))) else (some false)) else (none)) else (none)) else (none)) else (if 0 ≤ (wrap64 ((wrap64 ((wrap64 ((l0.length : Int) + 1)) + (l0.length : Int))) + x13_6)) then (if (wrap64 ((wrap64 ((wrap64 ((l0.length : Int) + 1)) + (l0.length : Int))) + x13_6)) < (t121.length : Int) then (if (rdOf ByteArray.empty t121 (wrap64 ((wrap64 ((wrap64 ((l0.length : Int) + 1)) + (l0.length : Int))) + x13_6))).toList = a1.toList then (laws_FnOlderNewer.l3 k6 l0 a1 t121 (wrap64 ((l0.length : Int) + 1)) (wrap64 (x13_6 + 1))) else (some false)) else (none)) else (none))) else (some false)) else (none)) else (none)) = some r := by first | (rw [hji40] at H; exact H) | (simp only [hji40] at H ⊢; exact H)
                                              have hji40w : (IntKind.i64.wrap ((wrap64 ((l0.length : Int) - 1)) - x13_6)) = ji40 := (i64_w _).trans hji40
                                              by_cases c41 : 0 ≤ (ji40)
                                              · rw [if_pos c41] at H
                                                have c41b0 : decide (0 ≤ (ji40)) = true := decide_eq_true c41
                                                clear c41
                                                by_cases c42 : (ji40) < (l0.length : Int)
                                                · rw [if_pos c42] at H
                                                  have c42b0 : decide ((ji40) < (l0.length : Int)) = true := decide_eq_true c42
                                                  clear c42
                                                  by_cases c43 : (rdOf ByteArray.empty t121 (ji37)).toList = (rdOf ByteArray.empty l0 (ji40)).toList
                                                  · rw [if_pos c43] at H
                                                    have c43b0 : ((rdOf ByteArray.empty t121 (ji37)).toList == (rdOf ByteArray.empty l0 (ji40)).toList) = true := beq_iff_eq.mpr c43
                                                    have c43b1 : ((rdOf ByteArray.empty t121 (ji37)).toList != (rdOf ByteArray.empty l0 (ji40)).toList) = false := bne_eq_false_iff_eq.mpr c43
                                                    clear c43
                                                    by_cases c44 : (wrap64 (x13_6 + 1)) < (l0.length : Int)
                                                    · rw [if_pos c44] at H
                                                      have c44b0 : decide ((wrap64 (x13_6 + 1)) < (l0.length : Int)) = true := decide_eq_true c44
                                                      clear c44
                                                      obtain ⟨ji45, hji45⟩ : ∃ j_ : Int, (wrap64 (x13_6 + 1)) = j_ := ⟨_, rfl⟩
                                                      replace H : (if 0 ≤ (ji45) then (if 0 ≤ (wrap64 ((wrap64 ((wrap64 ((l0.length : Int) + 1)) + (l0.length : Int))) + x13_6)) then (if (wrap64 ((wrap64 ((wrap64 ((l0.length : Int) + 1)) + (l0.length : Int))) + x13_6)) < (t121.length : Int) then (if (rdOf ByteArray.empty t121 (wrap64 ((wrap64 ((wrap64 ((l0.length : Int) + 1)) + (l0.length : Int))) + x13_6))).toList = (rdOf ByteArray.empty l0 (ji45)).toList then (laws_FnOlderNewer.l3 k6 l0 a1 t121 (wrap64 ((l0.length : Int) + 1)) ji45) else (some false)) else (none)) else (none)) else (none)) = some r := by first | (rw [hji45] at H; exact H) | (simp only [hji45] at H ⊢; exact H)
                                                      (try rw [hji45] at c44b0)
                                                      have hji45w : (IntKind.i64.wrap (x13_6 + 1)) = ji45 := (i64_w _).trans hji45
                                                      by_cases c46 : 0 ≤ (ji45)
                                                      · rw [if_pos c46] at H
                                                        have c46b0 : decide (0 ≤ (ji45)) = true := decide_eq_true c46
                                                        clear c46
                                                        obtain ⟨ji47, hji47⟩ : ∃ j_ : Int, (wrap64 ((wrap64 ((wrap64 ((l0.length : Int) + 1)) + (l0.length : Int))) + x13_6)) = j_ := ⟨_, rfl⟩
                                                        replace H : (if 0 ≤ (ji47) then (if (ji47) < (t121.length : Int) then (if (rdOf ByteArray.empty t121 (ji47)).toList = (rdOf ByteArray.empty l0 (ji45)).toList then (laws_FnOlderNewer.l3 k6 l0 a1 t121 (wrap64 ((l0.length : Int) + 1)) ji45) else (some false)) else (none)) else (none)) = some r := by first | (rw [hji47] at H; exact H) | (simp only [hji47] at H ⊢; exact H)
                                                        have hji47w : (IntKind.i64.wrap ((wrap64 ((wrap64 ((l0.length : Int) + 1)) + (l0.length : Int))) + x13_6)) = ji47 := (i64_w _).trans hji47
                                                        by_cases c48 : 0 ≤ (ji47)
                                                        · rw [if_pos c48] at H
                                                          have c48b0 : decide (0 ≤ (ji47)) = true := decide_eq_true c48
                                                          clear c48
                                                          by_cases c49 : (ji47) < (t121.length : Int)
                                                          · rw [if_pos c49] at H
                                                            have c49b0 : decide ((ji47) < (t121.length : Int)) = true := decide_eq_true c49
                                                            clear c49
                                                            by_cases c50 : (rdOf ByteArray.empty t121 (ji47)).toList = (rdOf ByteArray.empty l0 (ji45)).toList
                                                            · rw [if_pos c50] at H
                                                              have c50b0 : ((rdOf ByteArray.empty t121 (ji47)).toList == (rdOf ByteArray.empty l0 (ji45)).toList) = true := beq_iff_eq.mpr c50
                                                              have c50b1 : ((rdOf ByteArray.empty t121 (ji47)).toList != (rdOf ByteArray.empty l0 (ji45)).toList) = false := bne_eq_false_iff_eq.mpr c50
                                                              clear c50
                                                              have H' := Aside0.mk H
                                                              clear H
                                                              try go_wp2
                                                              have n0_ := Aside0.mk (Kd.R_drew HO_10.out)
                                                              have n1_ := Aside0.mk (below_drew1 HB.out)
                                                              clear HO_10
                                                              clear HB
                                                              have HO_10 := n0_
                                                              have HB := n1_
                                                              clear n0_ n1_
                                                              have p127 : 0 ≤ ((ji37) : Int) := of_decide_eq_true (by first | (with_reducible assumption) | assumption)
                                                              have q127 : (ji37) < (t121.length : Int) := of_decide_eq_true (by first | (with_reducible assumption) | assumption)
                                                              obtain ⟨ad127, e127, hx127_0⟩ := Kd.at_string (Kd.R_reads' HO_10.out).2.2 (ji37) p127 q127
                                                              cases e127
                                                              replace p127 := eq_true p127
                                                              replace q127 := eq_true q127
                                                              have p128 : 0 ≤ ((ji40) : Int) := of_decide_eq_true (by first | (with_reducible assumption) | assumption)
                                                              have q128 : (ji40) < (l0.length : Int) := of_decide_eq_true (by first | (with_reducible assumption) | assumption)
                                                              obtain ⟨ad128, e128, hx128_0⟩ := Kd.at_string HR0.out (ji40) p128 q128
                                                              have hw128_0 := hx128_0
                                                              cases e128
                                                              replace hx128_0 := (HB.out.cell (World.block_lt_of_cell? w _ hx128_0)).trans hx128_0
                                                              replace p128 := eq_true p128
                                                              replace q128 := eq_true q128
                                                              refine start_ (n := 15) (S := fun w' => w'.cell? (ad127.add ((ji37)).toNat) = some (.string (rdOf ByteArray.empty t121 (ji37))) ∧ w'.cell? (ad128.add ((ji40)).toNat) = some (.string (rdOf ByteArray.empty l0 (ji40)))) (ds := []) #[false, false, false, false, false, false, false, false, false, false, false, false, false, false, false] (by kernel_rfl) rfl rfl ⟨hx127_0, ((HB.out.cell (World.block_lt_of_cell? w _ hw128_0)).trans hw128_0)⟩ (fun hHeld => ?_); refine with_tabW laws_FnOlderNewer.tab31 laws_FnOlderNewer.bits31 (fun HT_ HW_ => ?_)
                                                              generalize wr.drew = w51 at HO_10 HB hx127_0 hx128_0 hHeld ⊢
                                                              refine pure_ (i := 0) (N := some 110) (v := ?_) (a' := ?_) #[true, false, false, false, false, false, false, false, false, false, false, false, false, false, false] rfl rfl (any_of HT_.out (by kernel_rfl)) (fun _ _ _ h => h) (Or.inl ⟨by rfl, ?_⟩) ?_ ?_
                                                              rotate_left
                                                              · intro w'
                                                                go_simp
                                                                with_reducible rfl
                                                              rotate_left
                                                              · simp only [Act.put, List.setIfInBounds_toArray, List.set_cons_zero, List.set_cons_succ, i64_w, i32_w]
                                                                rfl
                                                              refine pure_ (i := 1) (N := some 111) (v := ?_) (a' := ?_) #[true, true, false, false, false, false, false, false, false, false, false, false, false, false, false] rfl rfl (any_of HT_.out (by kernel_rfl)) (fun _ _ _ h => h) (Or.inl ⟨by rfl, ?_⟩) ?_ ?_
                                                              rotate_left
                                                              · intro w'
                                                                go_simp
                                                                with_reducible rfl
                                                              rotate_left
                                                              · simp only [Act.put, List.setIfInBounds_toArray, List.set_cons_zero, List.set_cons_succ, i64_w, i32_w]
                                                                rfl
                                                              refine pure_ (i := 2) (N := some 112) (v := ?_) (a' := ?_) #[true, true, true, false, false, false, false, false, false, false, false, false, false, false, false] rfl rfl (any_of HT_.out (by kernel_rfl)) (fun _ _ _ h => h) (Or.inl ⟨by rfl, ?_⟩) ?_ ?_
                                                              rotate_left
                                                              · intro w'
                                                                go_simp
                                                                with_reducible rfl
                                                              rotate_left
                                                              · simp only [Act.put, List.setIfInBounds_toArray, List.set_cons_zero, List.set_cons_succ, i64_w, i32_w]
                                                                rfl
                                                              refine pure_ (i := 3) (N := some 113) (v := ?_) (a' := ?_) #[true, true, true, true, false, false, false, false, false, false, false, false, false, false, false] rfl rfl (any_of HT_.out (by kernel_rfl)) (fun _ _ _ h => h) (Or.inl ⟨by rfl, ?_⟩) ?_ ?_
                                                              rotate_left
                                                              · intro w'
                                                                go_simp
                                                                with_reducible rfl
                                                              rotate_left
                                                              · simp only [Act.put, List.setIfInBounds_toArray, List.set_cons_zero, List.set_cons_succ, i64_w, i32_w]
                                                                rfl
                                                              refine pure_ (i := 4) (N := some 114) (v := ?_) (a' := ?_) #[true, true, true, true, true, false, false, false, false, false, false, false, false, false, false] rfl rfl (any_of HT_.out (by kernel_rfl)) (fun _ _ _ h => h) (Or.inl ⟨by rfl, ?_⟩) ?_ ?_
                                                              rotate_left
                                                              · intro w'
                                                                go_simp
                                                                with_reducible rfl
                                                              rotate_left
                                                              · simp only [Act.put, List.setIfInBounds_toArray, List.set_cons_zero, List.set_cons_succ, i64_w, i32_w]
                                                                rfl
                                                              refine pure_ (i := 6) (N := some 116) (v := ?_) (a' := ?_) #[true, true, true, true, true, false, true, false, false, false, false, false, false, false, false] rfl rfl (any_of HT_.out (by kernel_rfl)) (fun _ _ _ h => h) (Or.inl ⟨by rfl, ?_⟩) ?_ ?_
                                                              rotate_left
                                                              · intro w'
                                                                go_simp
                                                                with_reducible rfl
                                                              rotate_left
                                                              · simp only [Act.put, List.setIfInBounds_toArray, List.set_cons_zero, List.set_cons_succ, i64_w, i32_w]
                                                                rfl
                                                              refine pure_ (i := 7) (N := some 117) (v := ?_) (a' := ?_) #[true, true, true, true, true, false, true, true, false, false, false, false, false, false, false] rfl rfl (any_of HT_.out (by kernel_rfl)) (fun _ _ _ h => h) (Or.inl ⟨by rfl, ?_⟩) ?_ ?_
                                                              rotate_left
                                                              · intro w'
                                                                go_simp
                                                                with_reducible rfl
                                                              rotate_left
                                                              · simp only [Act.put, List.setIfInBounds_toArray, List.set_cons_zero, List.set_cons_succ, i64_w, i32_w]
                                                                rfl
                                                              refine pure_ (i := 8) (N := some 118) (v := ?_) (a' := ?_) #[true, true, true, true, true, false, true, true, true, false, false, false, false, false, false] rfl rfl (any_of HT_.out (by kernel_rfl)) (fun _ _ _ h => h) (Or.inl ⟨by rfl, ?_⟩) ?_ ?_
                                                              rotate_left
                                                              · intro w'
                                                                go_simp
                                                                with_reducible rfl
                                                              rotate_left
                                                              · simp only [Act.put, List.setIfInBounds_toArray, List.set_cons_zero, List.set_cons_succ, i64_w, i32_w]
                                                                rfl
                                                              refine pure_ (i := 9) (N := some 119) (v := ?_) (a' := ?_) #[true, true, true, true, true, false, true, true, true, true, false, false, false, false, false] rfl rfl (any_of HT_.out (by kernel_rfl)) (fun _ _ _ h => h) (Or.inl ⟨by rfl, ?_⟩) ?_ ?_
                                                              rotate_left
                                                              · intro w'
                                                                go_simp
                                                                with_reducible rfl
                                                              rotate_left
                                                              · simp only [Act.put, List.setIfInBounds_toArray, List.set_cons_zero, List.set_cons_succ, i64_w, i32_w]
                                                                rfl
                                                              refine pure_ (i := 10) (N := some 120) (v := ?_) (a' := ?_) #[true, true, true, true, true, false, true, true, true, true, true, false, false, false, false] rfl rfl (any_of HT_.out (by kernel_rfl)) (fun _ _ _ h => h) (Or.inl ⟨by rfl, ?_⟩) ?_ ?_
                                                              rotate_left
                                                              · intro w'
                                                                go_simp
                                                                with_reducible rfl
                                                              rotate_left
                                                              · simp only [Act.put, List.setIfInBounds_toArray, List.set_cons_zero, List.set_cons_succ, i64_w, i32_w]
                                                                rfl
                                                              refine pure_ (i := 11) (N := some 121) (v := ?_) (a' := ?_) #[true, true, true, true, true, false, true, true, true, true, true, true, false, false, false] rfl rfl (any_of HT_.out (by kernel_rfl)) (fun _ _ _ h => h) (Or.inl ⟨by rfl, ?_⟩) ?_ ?_
                                                              rotate_left
                                                              · intro w'
                                                                go_simp
                                                                with_reducible rfl
                                                              rotate_left
                                                              · simp only [Act.put, List.setIfInBounds_toArray, List.set_cons_zero, List.set_cons_succ, i64_w, i32_w]
                                                                rfl
                                                              refine pure_ (i := 12) (N := some 122) (v := ?_) (a' := ?_) #[true, true, true, true, true, false, true, true, true, true, true, true, true, false, false] rfl rfl (any_of HT_.out (by kernel_rfl)) (fun _ _ _ h => h) (Or.inl ⟨by rfl, ?_⟩) ?_ ?_
                                                              rotate_left
                                                              · intro w'
                                                                go_simp
                                                                with_reducible rfl
                                                              rotate_left
                                                              · simp only [Act.put, List.setIfInBounds_toArray, List.set_cons_zero, List.set_cons_succ, i64_w, i32_w]
                                                                rfl
                                                              refine take_ (i := 5) (N := some 115) (v := ?_) (a' := ?_) #[true, true, true, true, true, true, true, true, true, true, true, true, true, false, false] rfl rfl (take_ofW HT_.out HW_.out (by kernel_rfl)) (fun _ _ _ h => h) (Or.inl ⟨by rfl, ?_⟩) hHeld ?_ ?_
                                                              rotate_left
                                                              · rintro w' ⟨s0, s1⟩
                                                                go_simp
                                                                with_reducible rfl
                                                              rotate_left
                                                              · simp only [Act.put, List.setIfInBounds_toArray, List.set_cons_zero, List.set_cons_succ, i64_w, i32_w]
                                                                rfl
                                                              refine take_ (i := 13) (N := some 123) (v := ?_) (a' := ?_) #[true, true, true, true, true, true, true, true, true, true, true, true, true, true, false] rfl rfl (take_ofW HT_.out HW_.out (by kernel_rfl)) (fun _ _ _ h => h) (Or.inl ⟨by rfl, ?_⟩) hHeld ?_ ?_
                                                              rotate_left
                                                              · rintro w' ⟨s0, s1⟩
                                                                go_simp
                                                                with_reducible rfl
                                                              rotate_left
                                                              · simp only [Act.put, List.setIfInBounds_toArray, List.set_cons_zero, List.set_cons_succ, i64_w, i32_w]
                                                                rfl
                                                              refine pure_ (i := 14) (N := some 124) (v := ?_) (a' := ?_) #[true, true, true, true, true, true, true, true, true, true, true, true, true, true, true] rfl rfl (any_of HT_.out (by kernel_rfl)) (fun _ _ _ h => h) (Or.inl ⟨by rfl, ?_⟩) ?_ ?_
                                                              rotate_left
                                                              · intro w'
                                                                go_simp
                                                                with_reducible rfl
                                                              rotate_left
                                                              · simp only [Act.put, List.setIfInBounds_toArray, List.set_cons_zero, List.set_cons_succ, i64_w, i32_w]
                                                                rfl
                                                              refine done_ (done_of HT_.out (by kernel_rfl)) ?_
                                                              have p129 : 0 ≤ ((ji45) : Int) := of_decide_eq_true (by first | (with_reducible assumption) | assumption)
                                                              have q129 : (ji45) < (l0.length : Int) := of_decide_eq_true (by first | (with_reducible assumption) | assumption)
                                                              obtain ⟨ad129, e129, hx129_0⟩ := Kd.at_string HR0.out (ji45) p129 q129
                                                              obtain rfl : ad128 = ad129 := (by injection e129)
                                                              replace hx129_0 := (HB.out.cell (World.block_lt_of_cell? w _ hx129_0)).trans hx129_0
                                                              replace p129 := eq_true p129
                                                              replace q129 := eq_true q129
                                                              have p130 : 0 ≤ ((ji47) : Int) := of_decide_eq_true (by first | (with_reducible assumption) | assumption)
                                                              have q130 : (ji47) < (t121.length : Int) := of_decide_eq_true (by first | (with_reducible assumption) | assumption)
                                                              obtain ⟨ad130, e130, hx130_0⟩ := Kd.at_string (Kd.R_reads' HO_10.out).2.2 (ji47) p130 q130
                                                              obtain rfl : ad127 = ad130 := (by injection e130)
                                                              replace p130 := eq_true p130
                                                              replace q130 := eq_true q130
                                                              try go_wp2
                                                              go_roundg k6
                                                              case measure => have := HJ2.out; have := HJ6.out; have := HK3.out; have := HK4.out; have := HK5.out; have := HK6.out; omega
                                                              case rel => exact ⟨(ji45), (by first | rfl | (simp; done) | (simp only [← hji45] <;> (first | rfl | simp)) | (simp [*]; done)), (by first | exact H' | (rw [hji45]; exact H')), ⟨by have := HJ2.out; have := HJ6.out; have := HK3.out; have := HK4.out; have := HK5.out; have := HK6.out; omega⟩, ⟨by (with_reducible repeat (first | apply Kd.R_alloc | apply Kd.R_drewN | apply Kd.R_drew)); exact HO_10.out⟩, ⟨by repeat (first | (with_reducible first | exact HB.out | apply below_alloc | apply pw_below_drewN | apply below_drew1) | exact HB.out)⟩⟩
                                                            · rw [if_neg c50] at H
                                                              have c50b0 : ((rdOf ByteArray.empty t121 (ji47)).toList == (rdOf ByteArray.empty l0 (ji45)).toList) = false := beq_eq_false_iff_ne.mpr c50
                                                              have c50b1 : ((rdOf ByteArray.empty t121 (ji47)).toList != (rdOf ByteArray.empty l0 (ji45)).toList) = true := bne_iff_ne.mpr c50
                                                              obtain rfl := Option.some.inj H
                                                              try go_wp2
                                                              have n0_ := Aside0.mk (Kd.R_drew HO_10.out)
                                                              have n1_ := Aside0.mk (below_drew1 HB.out)
                                                              clear HO_10
                                                              clear HB
                                                              have HO_10 := n0_
                                                              have HB := n1_
                                                              clear n0_ n1_
                                                              have p127 : 0 ≤ ((ji37) : Int) := of_decide_eq_true (by first | (with_reducible assumption) | assumption)
                                                              have q127 : (ji37) < (t121.length : Int) := of_decide_eq_true (by first | (with_reducible assumption) | assumption)
                                                              obtain ⟨ad127, e127, hx127_0⟩ := Kd.at_string (Kd.R_reads' HO_10.out).2.2 (ji37) p127 q127
                                                              cases e127
                                                              replace p127 := eq_true p127
                                                              replace q127 := eq_true q127
                                                              have p128 : 0 ≤ ((ji40) : Int) := of_decide_eq_true (by first | (with_reducible assumption) | assumption)
                                                              have q128 : (ji40) < (l0.length : Int) := of_decide_eq_true (by first | (with_reducible assumption) | assumption)
                                                              obtain ⟨ad128, e128, hx128_0⟩ := Kd.at_string HR0.out (ji40) p128 q128
                                                              have hw128_0 := hx128_0
                                                              cases e128
                                                              replace hx128_0 := (HB.out.cell (World.block_lt_of_cell? w _ hx128_0)).trans hx128_0
                                                              replace p128 := eq_true p128
                                                              replace q128 := eq_true q128
                                                              refine start_ (n := 15) (S := fun w' => w'.cell? (ad127.add ((ji37)).toNat) = some (.string (rdOf ByteArray.empty t121 (ji37))) ∧ w'.cell? (ad128.add ((ji40)).toNat) = some (.string (rdOf ByteArray.empty l0 (ji40)))) (ds := []) #[false, false, false, false, false, false, false, false, false, false, false, false, false, false, false] (by kernel_rfl) rfl rfl ⟨hx127_0, ((HB.out.cell (World.block_lt_of_cell? w _ hw128_0)).trans hw128_0)⟩ (fun hHeld => ?_); refine with_tabW laws_FnOlderNewer.tab31 laws_FnOlderNewer.bits31 (fun HT_ HW_ => ?_)
                                                              generalize wr.drew = w52 at HO_10 HB hx127_0 hx128_0 hHeld ⊢
                                                              refine pure_ (i := 0) (N := some 110) (v := ?_) (a' := ?_) #[true, false, false, false, false, false, false, false, false, false, false, false, false, false, false] rfl rfl (any_of HT_.out (by kernel_rfl)) (fun _ _ _ h => h) (Or.inl ⟨by rfl, ?_⟩) ?_ ?_
                                                              rotate_left
                                                              · intro w'
                                                                go_simp
                                                                with_reducible rfl
                                                              rotate_left
                                                              · simp only [Act.put, List.setIfInBounds_toArray, List.set_cons_zero, List.set_cons_succ, i64_w, i32_w]
                                                                rfl
                                                              refine pure_ (i := 1) (N := some 111) (v := ?_) (a' := ?_) #[true, true, false, false, false, false, false, false, false, false, false, false, false, false, false] rfl rfl (any_of HT_.out (by kernel_rfl)) (fun _ _ _ h => h) (Or.inl ⟨by rfl, ?_⟩) ?_ ?_
                                                              rotate_left
                                                              · intro w'
                                                                go_simp
                                                                with_reducible rfl
                                                              rotate_left
                                                              · simp only [Act.put, List.setIfInBounds_toArray, List.set_cons_zero, List.set_cons_succ, i64_w, i32_w]
                                                                rfl
                                                              refine pure_ (i := 2) (N := some 112) (v := ?_) (a' := ?_) #[true, true, true, false, false, false, false, false, false, false, false, false, false, false, false] rfl rfl (any_of HT_.out (by kernel_rfl)) (fun _ _ _ h => h) (Or.inl ⟨by rfl, ?_⟩) ?_ ?_
                                                              rotate_left
                                                              · intro w'
                                                                go_simp
                                                                with_reducible rfl
                                                              rotate_left
                                                              · simp only [Act.put, List.setIfInBounds_toArray, List.set_cons_zero, List.set_cons_succ, i64_w, i32_w]
                                                                rfl
                                                              refine pure_ (i := 3) (N := some 113) (v := ?_) (a' := ?_) #[true, true, true, true, false, false, false, false, false, false, false, false, false, false, false] rfl rfl (any_of HT_.out (by kernel_rfl)) (fun _ _ _ h => h) (Or.inl ⟨by rfl, ?_⟩) ?_ ?_
                                                              rotate_left
                                                              · intro w'
                                                                go_simp
                                                                with_reducible rfl
                                                              rotate_left
                                                              · simp only [Act.put, List.setIfInBounds_toArray, List.set_cons_zero, List.set_cons_succ, i64_w, i32_w]
                                                                rfl
                                                              refine pure_ (i := 4) (N := some 114) (v := ?_) (a' := ?_) #[true, true, true, true, true, false, false, false, false, false, false, false, false, false, false] rfl rfl (any_of HT_.out (by kernel_rfl)) (fun _ _ _ h => h) (Or.inl ⟨by rfl, ?_⟩) ?_ ?_
                                                              rotate_left
                                                              · intro w'
                                                                go_simp
                                                                with_reducible rfl
                                                              rotate_left
                                                              · simp only [Act.put, List.setIfInBounds_toArray, List.set_cons_zero, List.set_cons_succ, i64_w, i32_w]
                                                                rfl
                                                              refine pure_ (i := 6) (N := some 116) (v := ?_) (a' := ?_) #[true, true, true, true, true, false, true, false, false, false, false, false, false, false, false] rfl rfl (any_of HT_.out (by kernel_rfl)) (fun _ _ _ h => h) (Or.inl ⟨by rfl, ?_⟩) ?_ ?_
                                                              rotate_left
                                                              · intro w'
                                                                go_simp
                                                                with_reducible rfl
                                                              rotate_left
                                                              · simp only [Act.put, List.setIfInBounds_toArray, List.set_cons_zero, List.set_cons_succ, i64_w, i32_w]
                                                                rfl
                                                              refine pure_ (i := 7) (N := some 117) (v := ?_) (a' := ?_) #[true, true, true, true, true, false, true, true, false, false, false, false, false, false, false] rfl rfl (any_of HT_.out (by kernel_rfl)) (fun _ _ _ h => h) (Or.inl ⟨by rfl, ?_⟩) ?_ ?_
                                                              rotate_left
                                                              · intro w'
                                                                go_simp
                                                                with_reducible rfl
                                                              rotate_left
                                                              · simp only [Act.put, List.setIfInBounds_toArray, List.set_cons_zero, List.set_cons_succ, i64_w, i32_w]
                                                                rfl
                                                              refine pure_ (i := 8) (N := some 118) (v := ?_) (a' := ?_) #[true, true, true, true, true, false, true, true, true, false, false, false, false, false, false] rfl rfl (any_of HT_.out (by kernel_rfl)) (fun _ _ _ h => h) (Or.inl ⟨by rfl, ?_⟩) ?_ ?_
                                                              rotate_left
                                                              · intro w'
                                                                go_simp
                                                                with_reducible rfl
                                                              rotate_left
                                                              · simp only [Act.put, List.setIfInBounds_toArray, List.set_cons_zero, List.set_cons_succ, i64_w, i32_w]
                                                                rfl
                                                              refine pure_ (i := 9) (N := some 119) (v := ?_) (a' := ?_) #[true, true, true, true, true, false, true, true, true, true, false, false, false, false, false] rfl rfl (any_of HT_.out (by kernel_rfl)) (fun _ _ _ h => h) (Or.inl ⟨by rfl, ?_⟩) ?_ ?_
                                                              rotate_left
                                                              · intro w'
                                                                go_simp
                                                                with_reducible rfl
                                                              rotate_left
                                                              · simp only [Act.put, List.setIfInBounds_toArray, List.set_cons_zero, List.set_cons_succ, i64_w, i32_w]
                                                                rfl
                                                              refine pure_ (i := 10) (N := some 120) (v := ?_) (a' := ?_) #[true, true, true, true, true, false, true, true, true, true, true, false, false, false, false] rfl rfl (any_of HT_.out (by kernel_rfl)) (fun _ _ _ h => h) (Or.inl ⟨by rfl, ?_⟩) ?_ ?_
                                                              rotate_left
                                                              · intro w'
                                                                go_simp
                                                                with_reducible rfl
                                                              rotate_left
                                                              · simp only [Act.put, List.setIfInBounds_toArray, List.set_cons_zero, List.set_cons_succ, i64_w, i32_w]
                                                                rfl
                                                              refine pure_ (i := 11) (N := some 121) (v := ?_) (a' := ?_) #[true, true, true, true, true, false, true, true, true, true, true, true, false, false, false] rfl rfl (any_of HT_.out (by kernel_rfl)) (fun _ _ _ h => h) (Or.inl ⟨by rfl, ?_⟩) ?_ ?_
                                                              rotate_left
                                                              · intro w'
                                                                go_simp
                                                                with_reducible rfl
                                                              rotate_left
                                                              · simp only [Act.put, List.setIfInBounds_toArray, List.set_cons_zero, List.set_cons_succ, i64_w, i32_w]
                                                                rfl
                                                              refine pure_ (i := 12) (N := some 122) (v := ?_) (a' := ?_) #[true, true, true, true, true, false, true, true, true, true, true, true, true, false, false] rfl rfl (any_of HT_.out (by kernel_rfl)) (fun _ _ _ h => h) (Or.inl ⟨by rfl, ?_⟩) ?_ ?_
                                                              rotate_left
                                                              · intro w'
                                                                go_simp
                                                                with_reducible rfl
                                                              rotate_left
                                                              · simp only [Act.put, List.setIfInBounds_toArray, List.set_cons_zero, List.set_cons_succ, i64_w, i32_w]
                                                                rfl
                                                              refine take_ (i := 5) (N := some 115) (v := ?_) (a' := ?_) #[true, true, true, true, true, true, true, true, true, true, true, true, true, false, false] rfl rfl (take_ofW HT_.out HW_.out (by kernel_rfl)) (fun _ _ _ h => h) (Or.inl ⟨by rfl, ?_⟩) hHeld ?_ ?_
                                                              rotate_left
                                                              · rintro w' ⟨s0, s1⟩
                                                                go_simp
                                                                with_reducible rfl
                                                              rotate_left
                                                              · simp only [Act.put, List.setIfInBounds_toArray, List.set_cons_zero, List.set_cons_succ, i64_w, i32_w]
                                                                rfl
                                                              refine take_ (i := 13) (N := some 123) (v := ?_) (a' := ?_) #[true, true, true, true, true, true, true, true, true, true, true, true, true, true, false] rfl rfl (take_ofW HT_.out HW_.out (by kernel_rfl)) (fun _ _ _ h => h) (Or.inl ⟨by rfl, ?_⟩) hHeld ?_ ?_
                                                              rotate_left
                                                              · rintro w' ⟨s0, s1⟩
                                                                go_simp
                                                                with_reducible rfl
                                                              rotate_left
                                                              · simp only [Act.put, List.setIfInBounds_toArray, List.set_cons_zero, List.set_cons_succ, i64_w, i32_w]
                                                                rfl
                                                              refine pure_ (i := 14) (N := some 124) (v := ?_) (a' := ?_) #[true, true, true, true, true, true, true, true, true, true, true, true, true, true, true] rfl rfl (any_of HT_.out (by kernel_rfl)) (fun _ _ _ h => h) (Or.inl ⟨by rfl, ?_⟩) ?_ ?_
                                                              rotate_left
                                                              · intro w'
                                                                go_simp
                                                                with_reducible rfl
                                                              rotate_left
                                                              · simp only [Act.put, List.setIfInBounds_toArray, List.set_cons_zero, List.set_cons_succ, i64_w, i32_w]
                                                                rfl
                                                              refine done_ (done_of HT_.out (by kernel_rfl)) ?_
                                                              have p129 : 0 ≤ ((ji45) : Int) := of_decide_eq_true (by first | (with_reducible assumption) | assumption)
                                                              have q129 : (ji45) < (l0.length : Int) := of_decide_eq_true (by first | (with_reducible assumption) | assumption)
                                                              obtain ⟨ad129, e129, hx129_0⟩ := Kd.at_string HR0.out (ji45) p129 q129
                                                              obtain rfl : ad128 = ad129 := (by injection e129)
                                                              replace hx129_0 := (HB.out.cell (World.block_lt_of_cell? w _ hx129_0)).trans hx129_0
                                                              replace p129 := eq_true p129
                                                              replace q129 := eq_true q129
                                                              have p130 : 0 ≤ ((ji47) : Int) := of_decide_eq_true (by first | (with_reducible assumption) | assumption)
                                                              have q130 : (ji47) < (t121.length : Int) := of_decide_eq_true (by first | (with_reducible assumption) | assumption)
                                                              obtain ⟨ad130, e130, hx130_0⟩ := Kd.at_string (Kd.R_reads' HO_10.out).2.2 (ji47) p130 q130
                                                              obtain rfl : ad127 = ad130 := (by injection e130)
                                                              replace p130 := eq_true p130
                                                              replace q130 := eq_true q130
                                                              try go_wp2
                                                              go_ret
                                                              exact ⟨by first | rfl | (simp [errW_none, errW_some] <;> rfl) | (simp only [← hji37, ← hji40, ← hji45, ← hji47]; first | rfl | (simp [errW_none, errW_some] <;> rfl)) | (simp [*, errW_none, errW_some] <;> rfl), by repeat (first | (with_reducible first | exact HB.out | apply below_alloc | apply pw_below_drewN | apply below_drew1) | exact HB.out)⟩
                                                          · rw [if_neg c49] at H
                                                            exact absurd H (by simp)
                                                        · rw [if_neg c48] at H
                                                          exact absurd H (by simp)
                                                      · rw [if_neg c46] at H
                                                        exact absurd H (by simp)
                                                    · rw [if_neg c44] at H
                                                      have c44b0 : decide ((wrap64 (x13_6 + 1)) < (l0.length : Int)) = false := decide_eq_false c44
                                                      clear c44
                                                      obtain ⟨ji53, hji53⟩ : ∃ j_ : Int, (wrap64 ((wrap64 ((wrap64 ((l0.length : Int) + 1)) + (l0.length : Int))) + x13_6)) = j_ := ⟨_, rfl⟩
                                                      replace H : (if 0 ≤ (ji53) then (if (ji53) < (t121.length : Int) then (if (rdOf ByteArray.empty t121 (ji53)).toList = a1.toList then (laws_FnOlderNewer.l3 k6 l0 a1 t121 (wrap64 ((l0.length : Int) + 1)) (wrap64 (x13_6 + 1))) else (some false)) else (none)) else (none)) = some r := by first | (rw [hji53] at H; exact H) | (simp only [hji53] at H ⊢; exact H)
                                                      have hji53w : (IntKind.i64.wrap ((wrap64 ((wrap64 ((l0.length : Int) + 1)) + (l0.length : Int))) + x13_6)) = ji53 := (i64_w _).trans hji53
                                                      by_cases c54 : 0 ≤ (ji53)
                                                      · rw [if_pos c54] at H
                                                        have c54b0 : decide (0 ≤ (ji53)) = true := decide_eq_true c54
                                                        clear c54
                                                        by_cases c55 : (ji53) < (t121.length : Int)
                                                        · rw [if_pos c55] at H
                                                          have c55b0 : decide ((ji53) < (t121.length : Int)) = true := decide_eq_true c55
                                                          clear c55
                                                          by_cases c56 : (rdOf ByteArray.empty t121 (ji53)).toList = a1.toList
                                                          · rw [if_pos c56] at H
                                                            have c56b0 : ((rdOf ByteArray.empty t121 (ji53)).toList == a1.toList) = true := beq_iff_eq.mpr c56
                                                            have c56b1 : ((rdOf ByteArray.empty t121 (ji53)).toList != a1.toList) = false := bne_eq_false_iff_eq.mpr c56
                                                            clear c56
                                                            have H' := Aside0.mk H
                                                            clear H
                                                            try go_wp2
                                                            have n0_ := Aside0.mk (Kd.R_drew HO_10.out)
                                                            have n1_ := Aside0.mk (below_drew1 HB.out)
                                                            clear HO_10
                                                            clear HB
                                                            have HO_10 := n0_
                                                            have HB := n1_
                                                            clear n0_ n1_
                                                            have p127 : 0 ≤ ((ji37) : Int) := of_decide_eq_true (by first | (with_reducible assumption) | assumption)
                                                            have q127 : (ji37) < (t121.length : Int) := of_decide_eq_true (by first | (with_reducible assumption) | assumption)
                                                            obtain ⟨ad127, e127, hx127_0⟩ := Kd.at_string (Kd.R_reads' HO_10.out).2.2 (ji37) p127 q127
                                                            cases e127
                                                            replace p127 := eq_true p127
                                                            replace q127 := eq_true q127
                                                            have p128 : 0 ≤ ((ji40) : Int) := of_decide_eq_true (by first | (with_reducible assumption) | assumption)
                                                            have q128 : (ji40) < (l0.length : Int) := of_decide_eq_true (by first | (with_reducible assumption) | assumption)
                                                            obtain ⟨ad128, e128, hx128_0⟩ := Kd.at_string HR0.out (ji40) p128 q128
                                                            have hw128_0 := hx128_0
                                                            cases e128
                                                            replace hx128_0 := (HB.out.cell (World.block_lt_of_cell? w _ hx128_0)).trans hx128_0
                                                            replace p128 := eq_true p128
                                                            replace q128 := eq_true q128
                                                            refine start_ (n := 15) (S := fun w' => w'.cell? (ad127.add ((ji37)).toNat) = some (.string (rdOf ByteArray.empty t121 (ji37))) ∧ w'.cell? (ad128.add ((ji40)).toNat) = some (.string (rdOf ByteArray.empty l0 (ji40)))) (ds := []) #[false, false, false, false, false, false, false, false, false, false, false, false, false, false, false] (by kernel_rfl) rfl rfl ⟨hx127_0, ((HB.out.cell (World.block_lt_of_cell? w _ hw128_0)).trans hw128_0)⟩ (fun hHeld => ?_); refine with_tabW laws_FnOlderNewer.tab31 laws_FnOlderNewer.bits31 (fun HT_ HW_ => ?_)
                                                            generalize wr.drew = w57 at HO_10 HB hx127_0 hx128_0 hHeld ⊢
                                                            refine pure_ (i := 0) (N := some 110) (v := ?_) (a' := ?_) #[true, false, false, false, false, false, false, false, false, false, false, false, false, false, false] rfl rfl (any_of HT_.out (by kernel_rfl)) (fun _ _ _ h => h) (Or.inl ⟨by rfl, ?_⟩) ?_ ?_
                                                            rotate_left
                                                            · intro w'
                                                              go_simp
                                                              with_reducible rfl
                                                            rotate_left
                                                            · simp only [Act.put, List.setIfInBounds_toArray, List.set_cons_zero, List.set_cons_succ, i64_w, i32_w]
                                                              rfl
                                                            refine pure_ (i := 1) (N := some 111) (v := ?_) (a' := ?_) #[true, true, false, false, false, false, false, false, false, false, false, false, false, false, false] rfl rfl (any_of HT_.out (by kernel_rfl)) (fun _ _ _ h => h) (Or.inl ⟨by rfl, ?_⟩) ?_ ?_
                                                            rotate_left
                                                            · intro w'
                                                              go_simp
                                                              with_reducible rfl
                                                            rotate_left
                                                            · simp only [Act.put, List.setIfInBounds_toArray, List.set_cons_zero, List.set_cons_succ, i64_w, i32_w]
                                                              rfl
                                                            refine pure_ (i := 2) (N := some 112) (v := ?_) (a' := ?_) #[true, true, true, false, false, false, false, false, false, false, false, false, false, false, false] rfl rfl (any_of HT_.out (by kernel_rfl)) (fun _ _ _ h => h) (Or.inl ⟨by rfl, ?_⟩) ?_ ?_
                                                            rotate_left
                                                            · intro w'
                                                              go_simp
                                                              with_reducible rfl
                                                            rotate_left
                                                            · simp only [Act.put, List.setIfInBounds_toArray, List.set_cons_zero, List.set_cons_succ, i64_w, i32_w]
                                                              rfl
                                                            refine pure_ (i := 3) (N := some 113) (v := ?_) (a' := ?_) #[true, true, true, true, false, false, false, false, false, false, false, false, false, false, false] rfl rfl (any_of HT_.out (by kernel_rfl)) (fun _ _ _ h => h) (Or.inl ⟨by rfl, ?_⟩) ?_ ?_
                                                            rotate_left
                                                            · intro w'
                                                              go_simp
                                                              with_reducible rfl
                                                            rotate_left
                                                            · simp only [Act.put, List.setIfInBounds_toArray, List.set_cons_zero, List.set_cons_succ, i64_w, i32_w]
                                                              rfl
                                                            refine pure_ (i := 4) (N := some 114) (v := ?_) (a' := ?_) #[true, true, true, true, true, false, false, false, false, false, false, false, false, false, false] rfl rfl (any_of HT_.out (by kernel_rfl)) (fun _ _ _ h => h) (Or.inl ⟨by rfl, ?_⟩) ?_ ?_
                                                            rotate_left
                                                            · intro w'
                                                              go_simp
                                                              with_reducible rfl
                                                            rotate_left
                                                            · simp only [Act.put, List.setIfInBounds_toArray, List.set_cons_zero, List.set_cons_succ, i64_w, i32_w]
                                                              rfl
                                                            refine pure_ (i := 6) (N := some 116) (v := ?_) (a' := ?_) #[true, true, true, true, true, false, true, false, false, false, false, false, false, false, false] rfl rfl (any_of HT_.out (by kernel_rfl)) (fun _ _ _ h => h) (Or.inl ⟨by rfl, ?_⟩) ?_ ?_
                                                            rotate_left
                                                            · intro w'
                                                              go_simp
                                                              with_reducible rfl
                                                            rotate_left
                                                            · simp only [Act.put, List.setIfInBounds_toArray, List.set_cons_zero, List.set_cons_succ, i64_w, i32_w]
                                                              rfl
                                                            refine pure_ (i := 7) (N := some 117) (v := ?_) (a' := ?_) #[true, true, true, true, true, false, true, true, false, false, false, false, false, false, false] rfl rfl (any_of HT_.out (by kernel_rfl)) (fun _ _ _ h => h) (Or.inl ⟨by rfl, ?_⟩) ?_ ?_
                                                            rotate_left
                                                            · intro w'
                                                              go_simp
                                                              with_reducible rfl
                                                            rotate_left
                                                            · simp only [Act.put, List.setIfInBounds_toArray, List.set_cons_zero, List.set_cons_succ, i64_w, i32_w]
                                                              rfl
                                                            refine pure_ (i := 8) (N := some 118) (v := ?_) (a' := ?_) #[true, true, true, true, true, false, true, true, true, false, false, false, false, false, false] rfl rfl (any_of HT_.out (by kernel_rfl)) (fun _ _ _ h => h) (Or.inl ⟨by rfl, ?_⟩) ?_ ?_
                                                            rotate_left
                                                            · intro w'
                                                              go_simp
                                                              with_reducible rfl
                                                            rotate_left
                                                            · simp only [Act.put, List.setIfInBounds_toArray, List.set_cons_zero, List.set_cons_succ, i64_w, i32_w]
                                                              rfl
                                                            refine pure_ (i := 9) (N := some 119) (v := ?_) (a' := ?_) #[true, true, true, true, true, false, true, true, true, true, false, false, false, false, false] rfl rfl (any_of HT_.out (by kernel_rfl)) (fun _ _ _ h => h) (Or.inl ⟨by rfl, ?_⟩) ?_ ?_
                                                            rotate_left
                                                            · intro w'
                                                              go_simp
                                                              with_reducible rfl
                                                            rotate_left
                                                            · simp only [Act.put, List.setIfInBounds_toArray, List.set_cons_zero, List.set_cons_succ, i64_w, i32_w]
                                                              rfl
                                                            refine pure_ (i := 10) (N := some 120) (v := ?_) (a' := ?_) #[true, true, true, true, true, false, true, true, true, true, true, false, false, false, false] rfl rfl (any_of HT_.out (by kernel_rfl)) (fun _ _ _ h => h) (Or.inl ⟨by rfl, ?_⟩) ?_ ?_
                                                            rotate_left
                                                            · intro w'
                                                              go_simp
                                                              with_reducible rfl
                                                            rotate_left
                                                            · simp only [Act.put, List.setIfInBounds_toArray, List.set_cons_zero, List.set_cons_succ, i64_w, i32_w]
                                                              rfl
                                                            refine pure_ (i := 11) (N := some 121) (v := ?_) (a' := ?_) #[true, true, true, true, true, false, true, true, true, true, true, true, false, false, false] rfl rfl (any_of HT_.out (by kernel_rfl)) (fun _ _ _ h => h) (Or.inl ⟨by rfl, ?_⟩) ?_ ?_
                                                            rotate_left
                                                            · intro w'
                                                              go_simp
                                                              with_reducible rfl
                                                            rotate_left
                                                            · simp only [Act.put, List.setIfInBounds_toArray, List.set_cons_zero, List.set_cons_succ, i64_w, i32_w]
                                                              rfl
                                                            refine pure_ (i := 12) (N := some 122) (v := ?_) (a' := ?_) #[true, true, true, true, true, false, true, true, true, true, true, true, true, false, false] rfl rfl (any_of HT_.out (by kernel_rfl)) (fun _ _ _ h => h) (Or.inl ⟨by rfl, ?_⟩) ?_ ?_
                                                            rotate_left
                                                            · intro w'
                                                              go_simp
                                                              with_reducible rfl
                                                            rotate_left
                                                            · simp only [Act.put, List.setIfInBounds_toArray, List.set_cons_zero, List.set_cons_succ, i64_w, i32_w]
                                                              rfl
                                                            refine take_ (i := 5) (N := some 115) (v := ?_) (a' := ?_) #[true, true, true, true, true, true, true, true, true, true, true, true, true, false, false] rfl rfl (take_ofW HT_.out HW_.out (by kernel_rfl)) (fun _ _ _ h => h) (Or.inl ⟨by rfl, ?_⟩) hHeld ?_ ?_
                                                            rotate_left
                                                            · rintro w' ⟨s0, s1⟩
                                                              go_simp
                                                              with_reducible rfl
                                                            rotate_left
                                                            · simp only [Act.put, List.setIfInBounds_toArray, List.set_cons_zero, List.set_cons_succ, i64_w, i32_w]
                                                              rfl
                                                            refine take_ (i := 13) (N := some 123) (v := ?_) (a' := ?_) #[true, true, true, true, true, true, true, true, true, true, true, true, true, true, false] rfl rfl (take_ofW HT_.out HW_.out (by kernel_rfl)) (fun _ _ _ h => h) (Or.inl ⟨by rfl, ?_⟩) hHeld ?_ ?_
                                                            rotate_left
                                                            · rintro w' ⟨s0, s1⟩
                                                              go_simp
                                                              with_reducible rfl
                                                            rotate_left
                                                            · simp only [Act.put, List.setIfInBounds_toArray, List.set_cons_zero, List.set_cons_succ, i64_w, i32_w]
                                                              rfl
                                                            refine pure_ (i := 14) (N := some 124) (v := ?_) (a' := ?_) #[true, true, true, true, true, true, true, true, true, true, true, true, true, true, true] rfl rfl (any_of HT_.out (by kernel_rfl)) (fun _ _ _ h => h) (Or.inl ⟨by rfl, ?_⟩) ?_ ?_
                                                            rotate_left
                                                            · intro w'
                                                              go_simp
                                                              with_reducible rfl
                                                            rotate_left
                                                            · simp only [Act.put, List.setIfInBounds_toArray, List.set_cons_zero, List.set_cons_succ, i64_w, i32_w]
                                                              rfl
                                                            refine done_ (done_of HT_.out (by kernel_rfl)) ?_
                                                            have p131 : 0 ≤ ((ji53) : Int) := of_decide_eq_true (by first | (with_reducible assumption) | assumption)
                                                            have q131 : (ji53) < (t121.length : Int) := of_decide_eq_true (by first | (with_reducible assumption) | assumption)
                                                            obtain ⟨ad131, e131, hx131_0⟩ := Kd.at_string (Kd.R_reads' HO_10.out).2.2 (ji53) p131 q131
                                                            obtain rfl : ad127 = ad131 := (by injection e131)
                                                            replace p131 := eq_true p131
                                                            replace q131 := eq_true q131
                                                            try go_wp2
                                                            go_roundg k6
                                                            case measure => have := HJ2.out; have := HJ6.out; have := HK3.out; have := HK4.out; have := HK5.out; have := HK6.out; omega
                                                            case rel => exact ⟨(wrap64 (x13_6 + 1)), (by first | rfl | (simp; done) | (simp [*]; done)), H', ⟨by have := HJ2.out; have := HJ6.out; have := HK3.out; have := HK4.out; have := HK5.out; have := HK6.out; omega⟩, ⟨by (with_reducible repeat (first | apply Kd.R_alloc | apply Kd.R_drewN | apply Kd.R_drew)); exact HO_10.out⟩, ⟨by repeat (first | (with_reducible first | exact HB.out | apply below_alloc | apply pw_below_drewN | apply below_drew1) | exact HB.out)⟩⟩
                                                          · rw [if_neg c56] at H
                                                            have c56b0 : ((rdOf ByteArray.empty t121 (ji53)).toList == a1.toList) = false := beq_eq_false_iff_ne.mpr c56
                                                            have c56b1 : ((rdOf ByteArray.empty t121 (ji53)).toList != a1.toList) = true := bne_iff_ne.mpr c56
                                                            obtain rfl := Option.some.inj H
                                                            try go_wp2
                                                            have n0_ := Aside0.mk (Kd.R_drew HO_10.out)
                                                            have n1_ := Aside0.mk (below_drew1 HB.out)
                                                            clear HO_10
                                                            clear HB
                                                            have HO_10 := n0_
                                                            have HB := n1_
                                                            clear n0_ n1_
                                                            have p127 : 0 ≤ ((ji37) : Int) := of_decide_eq_true (by first | (with_reducible assumption) | assumption)
                                                            have q127 : (ji37) < (t121.length : Int) := of_decide_eq_true (by first | (with_reducible assumption) | assumption)
                                                            obtain ⟨ad127, e127, hx127_0⟩ := Kd.at_string (Kd.R_reads' HO_10.out).2.2 (ji37) p127 q127
                                                            cases e127
                                                            replace p127 := eq_true p127
                                                            replace q127 := eq_true q127
                                                            have p128 : 0 ≤ ((ji40) : Int) := of_decide_eq_true (by first | (with_reducible assumption) | assumption)
                                                            have q128 : (ji40) < (l0.length : Int) := of_decide_eq_true (by first | (with_reducible assumption) | assumption)
                                                            obtain ⟨ad128, e128, hx128_0⟩ := Kd.at_string HR0.out (ji40) p128 q128
                                                            have hw128_0 := hx128_0
                                                            cases e128
                                                            replace hx128_0 := (HB.out.cell (World.block_lt_of_cell? w _ hx128_0)).trans hx128_0
                                                            replace p128 := eq_true p128
                                                            replace q128 := eq_true q128
                                                            refine start_ (n := 15) (S := fun w' => w'.cell? (ad127.add ((ji37)).toNat) = some (.string (rdOf ByteArray.empty t121 (ji37))) ∧ w'.cell? (ad128.add ((ji40)).toNat) = some (.string (rdOf ByteArray.empty l0 (ji40)))) (ds := []) #[false, false, false, false, false, false, false, false, false, false, false, false, false, false, false] (by kernel_rfl) rfl rfl ⟨hx127_0, ((HB.out.cell (World.block_lt_of_cell? w _ hw128_0)).trans hw128_0)⟩ (fun hHeld => ?_); refine with_tabW laws_FnOlderNewer.tab31 laws_FnOlderNewer.bits31 (fun HT_ HW_ => ?_)
                                                            generalize wr.drew = w58 at HO_10 HB hx127_0 hx128_0 hHeld ⊢
                                                            refine pure_ (i := 0) (N := some 110) (v := ?_) (a' := ?_) #[true, false, false, false, false, false, false, false, false, false, false, false, false, false, false] rfl rfl (any_of HT_.out (by kernel_rfl)) (fun _ _ _ h => h) (Or.inl ⟨by rfl, ?_⟩) ?_ ?_
                                                            rotate_left
                                                            · intro w'
                                                              go_simp
                                                              with_reducible rfl
                                                            rotate_left
                                                            · simp only [Act.put, List.setIfInBounds_toArray, List.set_cons_zero, List.set_cons_succ, i64_w, i32_w]
                                                              rfl
                                                            refine pure_ (i := 1) (N := some 111) (v := ?_) (a' := ?_) #[true, true, false, false, false, false, false, false, false, false, false, false, false, false, false] rfl rfl (any_of HT_.out (by kernel_rfl)) (fun _ _ _ h => h) (Or.inl ⟨by rfl, ?_⟩) ?_ ?_
                                                            rotate_left
                                                            · intro w'
                                                              go_simp
                                                              with_reducible rfl
                                                            rotate_left
                                                            · simp only [Act.put, List.setIfInBounds_toArray, List.set_cons_zero, List.set_cons_succ, i64_w, i32_w]
                                                              rfl
                                                            refine pure_ (i := 2) (N := some 112) (v := ?_) (a' := ?_) #[true, true, true, false, false, false, false, false, false, false, false, false, false, false, false] rfl rfl (any_of HT_.out (by kernel_rfl)) (fun _ _ _ h => h) (Or.inl ⟨by rfl, ?_⟩) ?_ ?_
                                                            rotate_left
                                                            · intro w'
                                                              go_simp
                                                              with_reducible rfl
                                                            rotate_left
                                                            · simp only [Act.put, List.setIfInBounds_toArray, List.set_cons_zero, List.set_cons_succ, i64_w, i32_w]
                                                              rfl
                                                            refine pure_ (i := 3) (N := some 113) (v := ?_) (a' := ?_) #[true, true, true, true, false, false, false, false, false, false, false, false, false, false, false] rfl rfl (any_of HT_.out (by kernel_rfl)) (fun _ _ _ h => h) (Or.inl ⟨by rfl, ?_⟩) ?_ ?_
                                                            rotate_left
                                                            · intro w'
                                                              go_simp
                                                              with_reducible rfl
                                                            rotate_left
                                                            · simp only [Act.put, List.setIfInBounds_toArray, List.set_cons_zero, List.set_cons_succ, i64_w, i32_w]
                                                              rfl
                                                            refine pure_ (i := 4) (N := some 114) (v := ?_) (a' := ?_) #[true, true, true, true, true, false, false, false, false, false, false, false, false, false, false] rfl rfl (any_of HT_.out (by kernel_rfl)) (fun _ _ _ h => h) (Or.inl ⟨by rfl, ?_⟩) ?_ ?_
                                                            rotate_left
                                                            · intro w'
                                                              go_simp
                                                              with_reducible rfl
                                                            rotate_left
                                                            · simp only [Act.put, List.setIfInBounds_toArray, List.set_cons_zero, List.set_cons_succ, i64_w, i32_w]
                                                              rfl
                                                            refine pure_ (i := 6) (N := some 116) (v := ?_) (a' := ?_) #[true, true, true, true, true, false, true, false, false, false, false, false, false, false, false] rfl rfl (any_of HT_.out (by kernel_rfl)) (fun _ _ _ h => h) (Or.inl ⟨by rfl, ?_⟩) ?_ ?_
                                                            rotate_left
                                                            · intro w'
                                                              go_simp
                                                              with_reducible rfl
                                                            rotate_left
                                                            · simp only [Act.put, List.setIfInBounds_toArray, List.set_cons_zero, List.set_cons_succ, i64_w, i32_w]
                                                              rfl
                                                            refine pure_ (i := 7) (N := some 117) (v := ?_) (a' := ?_) #[true, true, true, true, true, false, true, true, false, false, false, false, false, false, false] rfl rfl (any_of HT_.out (by kernel_rfl)) (fun _ _ _ h => h) (Or.inl ⟨by rfl, ?_⟩) ?_ ?_
                                                            rotate_left
                                                            · intro w'
                                                              go_simp
                                                              with_reducible rfl
                                                            rotate_left
                                                            · simp only [Act.put, List.setIfInBounds_toArray, List.set_cons_zero, List.set_cons_succ, i64_w, i32_w]
                                                              rfl
                                                            refine pure_ (i := 8) (N := some 118) (v := ?_) (a' := ?_) #[true, true, true, true, true, false, true, true, true, false, false, false, false, false, false] rfl rfl (any_of HT_.out (by kernel_rfl)) (fun _ _ _ h => h) (Or.inl ⟨by rfl, ?_⟩) ?_ ?_
                                                            rotate_left
                                                            · intro w'
                                                              go_simp
                                                              with_reducible rfl
                                                            rotate_left
                                                            · simp only [Act.put, List.setIfInBounds_toArray, List.set_cons_zero, List.set_cons_succ, i64_w, i32_w]
                                                              rfl
                                                            refine pure_ (i := 9) (N := some 119) (v := ?_) (a' := ?_) #[true, true, true, true, true, false, true, true, true, true, false, false, false, false, false] rfl rfl (any_of HT_.out (by kernel_rfl)) (fun _ _ _ h => h) (Or.inl ⟨by rfl, ?_⟩) ?_ ?_
                                                            rotate_left
                                                            · intro w'
                                                              go_simp
                                                              with_reducible rfl
                                                            rotate_left
                                                            · simp only [Act.put, List.setIfInBounds_toArray, List.set_cons_zero, List.set_cons_succ, i64_w, i32_w]
                                                              rfl
                                                            refine pure_ (i := 10) (N := some 120) (v := ?_) (a' := ?_) #[true, true, true, true, true, false, true, true, true, true, true, false, false, false, false] rfl rfl (any_of HT_.out (by kernel_rfl)) (fun _ _ _ h => h) (Or.inl ⟨by rfl, ?_⟩) ?_ ?_
                                                            rotate_left
                                                            · intro w'
                                                              go_simp
                                                              with_reducible rfl
                                                            rotate_left
                                                            · simp only [Act.put, List.setIfInBounds_toArray, List.set_cons_zero, List.set_cons_succ, i64_w, i32_w]
                                                              rfl
                                                            refine pure_ (i := 11) (N := some 121) (v := ?_) (a' := ?_) #[true, true, true, true, true, false, true, true, true, true, true, true, false, false, false] rfl rfl (any_of HT_.out (by kernel_rfl)) (fun _ _ _ h => h) (Or.inl ⟨by rfl, ?_⟩) ?_ ?_
                                                            rotate_left
                                                            · intro w'
                                                              go_simp
                                                              with_reducible rfl
                                                            rotate_left
                                                            · simp only [Act.put, List.setIfInBounds_toArray, List.set_cons_zero, List.set_cons_succ, i64_w, i32_w]
                                                              rfl
                                                            refine pure_ (i := 12) (N := some 122) (v := ?_) (a' := ?_) #[true, true, true, true, true, false, true, true, true, true, true, true, true, false, false] rfl rfl (any_of HT_.out (by kernel_rfl)) (fun _ _ _ h => h) (Or.inl ⟨by rfl, ?_⟩) ?_ ?_
                                                            rotate_left
                                                            · intro w'
                                                              go_simp
                                                              with_reducible rfl
                                                            rotate_left
                                                            · simp only [Act.put, List.setIfInBounds_toArray, List.set_cons_zero, List.set_cons_succ, i64_w, i32_w]
                                                              rfl
                                                            refine take_ (i := 5) (N := some 115) (v := ?_) (a' := ?_) #[true, true, true, true, true, true, true, true, true, true, true, true, true, false, false] rfl rfl (take_ofW HT_.out HW_.out (by kernel_rfl)) (fun _ _ _ h => h) (Or.inl ⟨by rfl, ?_⟩) hHeld ?_ ?_
                                                            rotate_left
                                                            · rintro w' ⟨s0, s1⟩
                                                              go_simp
                                                              with_reducible rfl
                                                            rotate_left
                                                            · simp only [Act.put, List.setIfInBounds_toArray, List.set_cons_zero, List.set_cons_succ, i64_w, i32_w]
                                                              rfl
                                                            refine take_ (i := 13) (N := some 123) (v := ?_) (a' := ?_) #[true, true, true, true, true, true, true, true, true, true, true, true, true, true, false] rfl rfl (take_ofW HT_.out HW_.out (by kernel_rfl)) (fun _ _ _ h => h) (Or.inl ⟨by rfl, ?_⟩) hHeld ?_ ?_
                                                            rotate_left
                                                            · rintro w' ⟨s0, s1⟩
                                                              go_simp
                                                              with_reducible rfl
                                                            rotate_left
                                                            · simp only [Act.put, List.setIfInBounds_toArray, List.set_cons_zero, List.set_cons_succ, i64_w, i32_w]
                                                              rfl
                                                            refine pure_ (i := 14) (N := some 124) (v := ?_) (a' := ?_) #[true, true, true, true, true, true, true, true, true, true, true, true, true, true, true] rfl rfl (any_of HT_.out (by kernel_rfl)) (fun _ _ _ h => h) (Or.inl ⟨by rfl, ?_⟩) ?_ ?_
                                                            rotate_left
                                                            · intro w'
                                                              go_simp
                                                              with_reducible rfl
                                                            rotate_left
                                                            · simp only [Act.put, List.setIfInBounds_toArray, List.set_cons_zero, List.set_cons_succ, i64_w, i32_w]
                                                              rfl
                                                            refine done_ (done_of HT_.out (by kernel_rfl)) ?_
                                                            have p131 : 0 ≤ ((ji53) : Int) := of_decide_eq_true (by first | (with_reducible assumption) | assumption)
                                                            have q131 : (ji53) < (t121.length : Int) := of_decide_eq_true (by first | (with_reducible assumption) | assumption)
                                                            obtain ⟨ad131, e131, hx131_0⟩ := Kd.at_string (Kd.R_reads' HO_10.out).2.2 (ji53) p131 q131
                                                            obtain rfl : ad127 = ad131 := (by injection e131)
                                                            replace p131 := eq_true p131
                                                            replace q131 := eq_true q131
                                                            try go_wp2
                                                            go_ret
                                                            exact ⟨by first | rfl | (simp [errW_none, errW_some] <;> rfl) | (simp only [← hji37, ← hji40, ← hji53]; first | rfl | (simp [errW_none, errW_some] <;> rfl)) | (simp [*, errW_none, errW_some] <;> rfl), by repeat (first | (with_reducible first | exact HB.out | apply below_alloc | apply pw_below_drewN | apply below_drew1) | exact HB.out)⟩
                                                        · rw [if_neg c55] at H
                                                          exact absurd H (by simp)
                                                      · rw [if_neg c54] at H
                                                        exact absurd H (by simp)
                                                  · rw [if_neg c43] at H
                                                    have c43b0 : ((rdOf ByteArray.empty t121 (ji37)).toList == (rdOf ByteArray.empty l0 (ji40)).toList) = false := beq_eq_false_iff_ne.mpr c43
                                                    have c43b1 : ((rdOf ByteArray.empty t121 (ji37)).toList != (rdOf ByteArray.empty l0 (ji40)).toList) = true := bne_iff_ne.mpr c43
                                                    obtain rfl := Option.some.inj H
                                                    try go_wp2
                                                    have n0_ := Aside0.mk (Kd.R_drew HO_10.out)
                                                    have n1_ := Aside0.mk (below_drew1 HB.out)
                                                    clear HO_10
                                                    clear HB
                                                    have HO_10 := n0_
                                                    have HB := n1_
                                                    clear n0_ n1_
                                                    have p127 : 0 ≤ ((ji37) : Int) := of_decide_eq_true (by first | (with_reducible assumption) | assumption)
                                                    have q127 : (ji37) < (t121.length : Int) := of_decide_eq_true (by first | (with_reducible assumption) | assumption)
                                                    obtain ⟨ad127, e127, hx127_0⟩ := Kd.at_string (Kd.R_reads' HO_10.out).2.2 (ji37) p127 q127
                                                    cases e127
                                                    replace p127 := eq_true p127
                                                    replace q127 := eq_true q127
                                                    have p128 : 0 ≤ ((ji40) : Int) := of_decide_eq_true (by first | (with_reducible assumption) | assumption)
                                                    have q128 : (ji40) < (l0.length : Int) := of_decide_eq_true (by first | (with_reducible assumption) | assumption)
                                                    obtain ⟨ad128, e128, hx128_0⟩ := Kd.at_string HR0.out (ji40) p128 q128
                                                    have hw128_0 := hx128_0
                                                    cases e128
                                                    replace hx128_0 := (HB.out.cell (World.block_lt_of_cell? w _ hx128_0)).trans hx128_0
                                                    replace p128 := eq_true p128
                                                    replace q128 := eq_true q128
                                                    refine start_ (n := 15) (S := fun w' => w'.cell? (ad127.add ((ji37)).toNat) = some (.string (rdOf ByteArray.empty t121 (ji37))) ∧ w'.cell? (ad128.add ((ji40)).toNat) = some (.string (rdOf ByteArray.empty l0 (ji40)))) (ds := []) #[false, false, false, false, false, false, false, false, false, false, false, false, false, false, false] (by kernel_rfl) rfl rfl ⟨hx127_0, ((HB.out.cell (World.block_lt_of_cell? w _ hw128_0)).trans hw128_0)⟩ (fun hHeld => ?_); refine with_tabW laws_FnOlderNewer.tab31 laws_FnOlderNewer.bits31 (fun HT_ HW_ => ?_)
                                                    generalize wr.drew = w59 at HO_10 HB hx127_0 hx128_0 hHeld ⊢
                                                    refine pure_ (i := 0) (N := some 110) (v := ?_) (a' := ?_) #[true, false, false, false, false, false, false, false, false, false, false, false, false, false, false] rfl rfl (any_of HT_.out (by kernel_rfl)) (fun _ _ _ h => h) (Or.inl ⟨by rfl, ?_⟩) ?_ ?_
                                                    rotate_left
                                                    · intro w'
                                                      go_simp
                                                      with_reducible rfl
                                                    rotate_left
                                                    · simp only [Act.put, List.setIfInBounds_toArray, List.set_cons_zero, List.set_cons_succ, i64_w, i32_w]
                                                      rfl
                                                    refine pure_ (i := 1) (N := some 111) (v := ?_) (a' := ?_) #[true, true, false, false, false, false, false, false, false, false, false, false, false, false, false] rfl rfl (any_of HT_.out (by kernel_rfl)) (fun _ _ _ h => h) (Or.inl ⟨by rfl, ?_⟩) ?_ ?_
                                                    rotate_left
                                                    · intro w'
                                                      go_simp
                                                      with_reducible rfl
                                                    rotate_left
                                                    · simp only [Act.put, List.setIfInBounds_toArray, List.set_cons_zero, List.set_cons_succ, i64_w, i32_w]
                                                      rfl
                                                    refine pure_ (i := 2) (N := some 112) (v := ?_) (a' := ?_) #[true, true, true, false, false, false, false, false, false, false, false, false, false, false, false] rfl rfl (any_of HT_.out (by kernel_rfl)) (fun _ _ _ h => h) (Or.inl ⟨by rfl, ?_⟩) ?_ ?_
                                                    rotate_left
                                                    · intro w'
                                                      go_simp
                                                      with_reducible rfl
                                                    rotate_left
                                                    · simp only [Act.put, List.setIfInBounds_toArray, List.set_cons_zero, List.set_cons_succ, i64_w, i32_w]
                                                      rfl
                                                    refine pure_ (i := 3) (N := some 113) (v := ?_) (a' := ?_) #[true, true, true, true, false, false, false, false, false, false, false, false, false, false, false] rfl rfl (any_of HT_.out (by kernel_rfl)) (fun _ _ _ h => h) (Or.inl ⟨by rfl, ?_⟩) ?_ ?_
                                                    rotate_left
                                                    · intro w'
                                                      go_simp
                                                      with_reducible rfl
                                                    rotate_left
                                                    · simp only [Act.put, List.setIfInBounds_toArray, List.set_cons_zero, List.set_cons_succ, i64_w, i32_w]
                                                      rfl
                                                    refine pure_ (i := 4) (N := some 114) (v := ?_) (a' := ?_) #[true, true, true, true, true, false, false, false, false, false, false, false, false, false, false] rfl rfl (any_of HT_.out (by kernel_rfl)) (fun _ _ _ h => h) (Or.inl ⟨by rfl, ?_⟩) ?_ ?_
                                                    rotate_left
                                                    · intro w'
                                                      go_simp
                                                      with_reducible rfl
                                                    rotate_left
                                                    · simp only [Act.put, List.setIfInBounds_toArray, List.set_cons_zero, List.set_cons_succ, i64_w, i32_w]
                                                      rfl
                                                    refine pure_ (i := 6) (N := some 116) (v := ?_) (a' := ?_) #[true, true, true, true, true, false, true, false, false, false, false, false, false, false, false] rfl rfl (any_of HT_.out (by kernel_rfl)) (fun _ _ _ h => h) (Or.inl ⟨by rfl, ?_⟩) ?_ ?_
                                                    rotate_left
                                                    · intro w'
                                                      go_simp
                                                      with_reducible rfl
                                                    rotate_left
                                                    · simp only [Act.put, List.setIfInBounds_toArray, List.set_cons_zero, List.set_cons_succ, i64_w, i32_w]
                                                      rfl
                                                    refine pure_ (i := 7) (N := some 117) (v := ?_) (a' := ?_) #[true, true, true, true, true, false, true, true, false, false, false, false, false, false, false] rfl rfl (any_of HT_.out (by kernel_rfl)) (fun _ _ _ h => h) (Or.inl ⟨by rfl, ?_⟩) ?_ ?_
                                                    rotate_left
                                                    · intro w'
                                                      go_simp
                                                      with_reducible rfl
                                                    rotate_left
                                                    · simp only [Act.put, List.setIfInBounds_toArray, List.set_cons_zero, List.set_cons_succ, i64_w, i32_w]
                                                      rfl
                                                    refine pure_ (i := 8) (N := some 118) (v := ?_) (a' := ?_) #[true, true, true, true, true, false, true, true, true, false, false, false, false, false, false] rfl rfl (any_of HT_.out (by kernel_rfl)) (fun _ _ _ h => h) (Or.inl ⟨by rfl, ?_⟩) ?_ ?_
                                                    rotate_left
                                                    · intro w'
                                                      go_simp
                                                      with_reducible rfl
                                                    rotate_left
                                                    · simp only [Act.put, List.setIfInBounds_toArray, List.set_cons_zero, List.set_cons_succ, i64_w, i32_w]
                                                      rfl
                                                    refine pure_ (i := 9) (N := some 119) (v := ?_) (a' := ?_) #[true, true, true, true, true, false, true, true, true, true, false, false, false, false, false] rfl rfl (any_of HT_.out (by kernel_rfl)) (fun _ _ _ h => h) (Or.inl ⟨by rfl, ?_⟩) ?_ ?_
                                                    rotate_left
                                                    · intro w'
                                                      go_simp
                                                      with_reducible rfl
                                                    rotate_left
                                                    · simp only [Act.put, List.setIfInBounds_toArray, List.set_cons_zero, List.set_cons_succ, i64_w, i32_w]
                                                      rfl
                                                    refine pure_ (i := 10) (N := some 120) (v := ?_) (a' := ?_) #[true, true, true, true, true, false, true, true, true, true, true, false, false, false, false] rfl rfl (any_of HT_.out (by kernel_rfl)) (fun _ _ _ h => h) (Or.inl ⟨by rfl, ?_⟩) ?_ ?_
                                                    rotate_left
                                                    · intro w'
                                                      go_simp
                                                      with_reducible rfl
                                                    rotate_left
                                                    · simp only [Act.put, List.setIfInBounds_toArray, List.set_cons_zero, List.set_cons_succ, i64_w, i32_w]
                                                      rfl
                                                    refine pure_ (i := 11) (N := some 121) (v := ?_) (a' := ?_) #[true, true, true, true, true, false, true, true, true, true, true, true, false, false, false] rfl rfl (any_of HT_.out (by kernel_rfl)) (fun _ _ _ h => h) (Or.inl ⟨by rfl, ?_⟩) ?_ ?_
                                                    rotate_left
                                                    · intro w'
                                                      go_simp
                                                      with_reducible rfl
                                                    rotate_left
                                                    · simp only [Act.put, List.setIfInBounds_toArray, List.set_cons_zero, List.set_cons_succ, i64_w, i32_w]
                                                      rfl
                                                    refine pure_ (i := 12) (N := some 122) (v := ?_) (a' := ?_) #[true, true, true, true, true, false, true, true, true, true, true, true, true, false, false] rfl rfl (any_of HT_.out (by kernel_rfl)) (fun _ _ _ h => h) (Or.inl ⟨by rfl, ?_⟩) ?_ ?_
                                                    rotate_left
                                                    · intro w'
                                                      go_simp
                                                      with_reducible rfl
                                                    rotate_left
                                                    · simp only [Act.put, List.setIfInBounds_toArray, List.set_cons_zero, List.set_cons_succ, i64_w, i32_w]
                                                      rfl
                                                    refine take_ (i := 5) (N := some 115) (v := ?_) (a' := ?_) #[true, true, true, true, true, true, true, true, true, true, true, true, true, false, false] rfl rfl (take_ofW HT_.out HW_.out (by kernel_rfl)) (fun _ _ _ h => h) (Or.inl ⟨by rfl, ?_⟩) hHeld ?_ ?_
                                                    rotate_left
                                                    · rintro w' ⟨s0, s1⟩
                                                      go_simp
                                                      with_reducible rfl
                                                    rotate_left
                                                    · simp only [Act.put, List.setIfInBounds_toArray, List.set_cons_zero, List.set_cons_succ, i64_w, i32_w]
                                                      rfl
                                                    refine take_ (i := 13) (N := some 123) (v := ?_) (a' := ?_) #[true, true, true, true, true, true, true, true, true, true, true, true, true, true, false] rfl rfl (take_ofW HT_.out HW_.out (by kernel_rfl)) (fun _ _ _ h => h) (Or.inl ⟨by rfl, ?_⟩) hHeld ?_ ?_
                                                    rotate_left
                                                    · rintro w' ⟨s0, s1⟩
                                                      go_simp
                                                      with_reducible rfl
                                                    rotate_left
                                                    · simp only [Act.put, List.setIfInBounds_toArray, List.set_cons_zero, List.set_cons_succ, i64_w, i32_w]
                                                      rfl
                                                    refine pure_ (i := 14) (N := some 124) (v := ?_) (a' := ?_) #[true, true, true, true, true, true, true, true, true, true, true, true, true, true, true] rfl rfl (any_of HT_.out (by kernel_rfl)) (fun _ _ _ h => h) (Or.inl ⟨by rfl, ?_⟩) ?_ ?_
                                                    rotate_left
                                                    · intro w'
                                                      go_simp
                                                      with_reducible rfl
                                                    rotate_left
                                                    · simp only [Act.put, List.setIfInBounds_toArray, List.set_cons_zero, List.set_cons_succ, i64_w, i32_w]
                                                      rfl
                                                    refine done_ (done_of HT_.out (by kernel_rfl)) ?_
                                                    try go_wp2
                                                    go_ret
                                                    exact ⟨by first | rfl | (simp [errW_none, errW_some] <;> rfl) | (simp only [← hji37, ← hji40]; first | rfl | (simp [errW_none, errW_some] <;> rfl)) | (simp [*, errW_none, errW_some] <;> rfl), by repeat (first | (with_reducible first | exact HB.out | apply below_alloc | apply pw_below_drewN | apply below_drew1) | exact HB.out)⟩
                                                · rw [if_neg c42] at H
                                                  exact absurd H (by simp)
                                              · rw [if_neg c41] at H
                                                exact absurd H (by simp)
                                            · rw [if_neg c39] at H
                                              exact absurd H (by simp)
                                          · rw [if_neg c38] at H
                                            exact absurd H (by simp)
                                        · rw [if_neg c36] at H
                                          have c36b0 : decide (x13_6 < (l0.length : Int)) = false := decide_eq_false c36
                                          clear c36
                                          obtain rfl := Option.some.inj H
                                          go_wp2
                                          go_ret
                                          exact ⟨by first | rfl | (simp [errW_none, errW_some] <;> rfl) | (simp [*, errW_none, errW_some] <;> rfl), by repeat (first | (with_reducible first | exact HB.out | apply below_alloc | apply pw_below_drewN | apply below_drew1) | exact HB.out)⟩
                                  · rw [if_neg c32] at H
                                    have c32b0 : ((t121.length : Int) == (x5_5.length : Int)) = false := beq_eq_false_iff_ne.mpr c32
                                    have c32b1 : ((t121.length : Int) != (x5_5.length : Int)) = true := bne_iff_ne.mpr c32
                                    have c32b2 : (t121.length == x5_5.length) = false := by first | simpa using c32 | (simp at c32 ⊢; omega)
                                    obtain rfl := Option.some.inj H
                                    obtain ⟨Ao60, co60, eo60⟩ := Kd.R_slice HO_5.out
                                    subst eo60
                                    go_wp2_with (first | ((with_reducible refine gate_callee (f := 9) rfl ?_); refine goesL_ (some 93) rfl rfl Try.func9 (by kernel_rfl) rfl #[.slice Ao60 x5_5.length co60] rfl (by (try simp only [List.map_toArray, List.map_cons, List.map_nil]); first | done | rfl | (simp only [List.length_drop, List.length_take]; rfl) | (simp only [Int.toNat_natCast, ByteArray.extract_zero_size]; rfl)) ?_; (with_reducible refine (impl_Turned.calls _ _ x5_5 t121 t122 _ ?side1 ?side2 A31.out).mono ?_); (case side1 => repeat (first | exact (Kd.R_reads' HO_5.out).2.2 | (with_reducible refine Kd.C_alloc ?_ _) | (with_reducible refine Kd.C_drewN ?_ _) | (with_reducible refine Kd.C_drew ?_))); (case side2 => exact (Kd.R_reads' HO_5.out).2.1); rintro e w61 ⟨v123, v125, rfl, ho0, ho1, hb⟩; refine ⟨_, rfl, ?_⟩; have n0_ := Aside0.mk (Kd.R_below (by (with_reducible repeat (first | apply Kd.R_alloc | apply Kd.R_drewN | apply Kd.R_drew)); exact HO_5.out) hb); have n1_ := Aside0.mk (Kd.R_lower ho0 (below_size (by repeat (first | (with_reducible first | exact HB.out | apply below_alloc | apply pw_below_drewN | apply below_drew1) | exact HB.out)))); have n2_ := Aside0.mk (Kd.R_lower ho1 (below_size (by repeat (first | (with_reducible first | exact HB.out | apply below_alloc | apply pw_below_drewN | apply below_drew1) | exact HB.out)))); have n3_ := Aside0.mk (below_step (by repeat (first | (with_reducible first | exact HB.out | apply below_alloc | apply pw_below_drewN | apply below_drew1) | exact HB.out)) hb); clear HO_5; clear HB; have HO_5 := n0_; have HO124 := n1_; have HO126 := n2_; have HB := n3_; clear n0_ n1_ n2_ n3_; (try clear hb); (try clear hb2); (try clear hk); (try clear hi); (try clear ho0); (try clear ho1); obtain ⟨Ao62, co62, eo62⟩ := Kd.R_slice HO124.out; subst eo62))
                                    go_ret
                                    exact ⟨by first | rfl | (simp [errW_none, errW_some] <;> rfl) | (simp [*, errW_none, errW_some] <;> rfl), by repeat (first | (with_reducible first | exact HB.out | apply below_alloc | apply pw_below_drewN | apply below_drew1) | exact HB.out)⟩
                    · rw [if_neg c17] at H
                      exact absurd H (by simp)
/-- THE ONE PURE STATEMENT of laws_FnOlderNewer: yours. -/
def laws_FnOlderNewer.Pure : Prop := ∀ (l0 : List ByteArray) (a1 : ByteArray), l0.length ≤ maxLen → (∀ x ∈ l0, x.size ≤ maxLen) → a1.size ≤ maxLen → ∃ k, laws_FnOlderNewer.f k l0 a1 = some true
theorem laws_FnOlderNewer.walk (P : laws_FnOlderNewer.Pure) (A0 : Option Addr) (c0 : Nat) (l0 : List ByteArray) (a1 : ByteArray) (w : World) (hr0 : Kd.C Kd.string w A0 l0.length l0) (hc0 : l0.length ≤ c0) (hm0 : l0.length ≤ maxLen) (hg0 : ∀ x ∈ l0, x.size ≤ maxLen) (hg1 : a1.size ≤ maxLen) :
    Calls Try.prog 4 #[.slice A0 l0.length c0, .string a1] w fun e w' => e = .returned (.bool true) ∧ Below w.heap.size w w' := by
  obtain ⟨k, h⟩ := P l0 a1 hm0 hg0 hg1
  refine (laws_FnOlderNewer.calls k A0 c0 l0 a1 true w hr0 hc0 h).mono ?_
  rintro e w' ⟨rfl, hd⟩
  exact ⟨rfl, hd⟩
end Go.Proofs.Ythbdaoapjnofkaa.PFnOlderNewer
