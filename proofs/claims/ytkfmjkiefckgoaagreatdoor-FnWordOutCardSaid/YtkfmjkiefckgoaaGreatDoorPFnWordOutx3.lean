/- Printed by a program of this seat (xprint) out of the translation: Go functions as plain functions, and the walks that show them; no condition. -/
import Derived.Test.YtkfmjkiefckgoaaGreatDoorPFnWordOutx0
import Derived.Test.YtkfmjkiefckgoaaGreatDoorHEdFnWordOut
import Derived.Test.YtkfmjkiefckgoaaGreatDoorPFnWordOutx1
import Derived.Test.YtkfmjkiefckgoaaGreatDoorPFnWordOutx2
namespace Go.Proofs.YtkfmjkiefckgoaaGreatDoor.PFnWordOut
open Go.RowKit Go.Proofs.YtkfmjkiefckgoaaGreatDoor.H Go.Proofs.YtkfmjkiefckgoaaGreatDoor.PAroundOf Go.Proofs.YtkfmjkiefckgoaaGreatDoor.R Go.Proofs.YtkfmjkiefckgoaaGreatDoorW.PrintWords Go.Proofs.YtkfmjkiefckgoaaGreatDoorW.PrintLast Go.Proofs.YtkfmjkiefckgoaaGreatDoorW.PrintMore
attribute [local go_sem] max2_int min2_int max_two min_two max_three min_three max_four min_four   -- for this text's walks alone
set_option linter.unusedVariables false
set_option linter.unusedSimpArgs false
attribute [local go_sem high] eqA23
/-! ### laws_FnWordOut: function 5 -/
def laws_FnWordOut.f (k : Nat) (a0_0 : ByteArray) (a0_1 : Int) : Option (Bool) := (laws_zzFits2.f a0_0 a0_1).bind fun t123 => (if t123 = true then ((spec_DocRight.f k a0_0 a0_1).bind fun t124 => (if t124 = true then ((impl_AroundOf.f k a0_0 a0_1).bind fun bt125 => ((laws_one7.f a0_0 a0_1 15 0 (⟨#[]⟩ : ByteArray) false).bind fun bt141 => (if bt141.2.2.2 = true then ((laws_one7.f a0_0 a0_1 7 (bt125.2.2.2.2.2.2.2.2.2.2.2.2.1.size : Int) (⟨#[]⟩ : ByteArray) false).bind fun bt146 => (if bt146.2.2.2 = true then ((laws_one7.f a0_0 a0_1 20 0 (⟨#[]⟩ : ByteArray) false).bind fun bt151 => (if bt151.2.2.2 = true then ((laws_one7.f a0_0 a0_1 3 (bt125.2.2.2.2.2.2.2.2.2.2.2.2.1.size : Int) (⟨#[]⟩ : ByteArray) false).bind fun bt156 => (if bt156.2.2.2 = true then (if (bt141.1.toList == bt146.1.toList && (bt141.2.1 == bt146.2.1)) = true then (if (bt151.1.toList == bt156.1.toList && (bt151.2.1 == bt156.2.1)) = true then (if (bt146.2.2.1.size : Int) = (bt125.2.2.2.2.2.2.2.2.2.2.2.2.1.size : Int) then (if 0 ≤ a0_1 then (if a0_1 ≤ (a0_0.size : Int) then ((spec_Start.f k (a0_0.extract 0 (a0_1 : Int).toNat) (⟨#[32]⟩ : ByteArray) true).bind fun t161 => (some ((bt125.2.2.2.2.2.2.2.2.2.2.2.2.1.size : Int) == (wrap64 (((a0_0.extract 0 (a0_1 : Int).toNat).size : Int) - t161))))) else (none)) else (none)) else (some false)) else (some false)) else (some false)) else (none))) else (none))) else (none))) else (none)))) else (some true))) else (some true))
theorem laws_FnWordOut.mono : ∀ a0 a1 k, LeO (laws_FnWordOut.f k a0 a1) (laws_FnWordOut.f (k + 1) a0 a1) := by
 intro a0 a1 k
 unfold laws_FnWordOut.f
 repeat' first
   | (with_reducible exact impl_AroundOf.mono _ _ _)
   | (with_reducible exact spec_DocRight.mono _ _ _)
   | (with_reducible exact spec_Start.mono _ _ _ _)
   | (with_reducible exact LeO.refl _)
   | (with_reducible exact LeO.none _)
   | (with_reducible refine LeO.ite ?_ ?_)
   | (with_reducible refine LeO.bind ?_ (fun _ => ?_))
   | exact impl_AroundOf.mono _ _ _
   | exact spec_DocRight.mono _ _ _
   | exact spec_Start.mono _ _ _ _
   | exact LeO.none _
   | refine LeO.ite ?_ ?_
   | refine LeO.bind ?_ (fun _ => ?_)
def laws_FnWordOut.T10 : Bool × List (List Nat × List Nat) := (true, [([], []), ([0], [0]), ([1], [1]), ([1, 2], [1, 2]), ([3, 1], [3]), ([4], [4]), ([4, 5], [4, 5]), ([6, 4], [6]), ([7], [7]), ([7, 8], [7, 8]), ([9, 7], [9]), ([10], [10]), ([10], [10]), ([11, 12, 10], [10, 11, 12]), ([10, 13], [10, 13]), ([14, 10], [14]), ([15], [15]), ([15], [15]), ([16, 17, 15], [15, 16, 17]), ([15, 18], [15, 18]), ([19, 15], [19]), ([20], [20]), ([21, 20], [20, 21]), ([20], [20]), ([22, 23, 20], [20, 22, 23]), ([20, 24], [20, 24]), ([25, 20], [25]), ([26], [26]), ([26], [26]), ([28, 26], [26, 28]), ([26], [26]), ([30, 26], [26, 30]), ([29, 31, 26], [26, 29, 31]), ([32, 26], [26, 32]), ([26], [26]), ([34, 26], [26, 34]), ([26], [26]), ([36, 26], [26, 36]), ([35, 37, 26], [26, 35, 37]), ([38, 26, 26], [26, 38]), ([33, 39, 26], [26, 33, 39]), ([27, 40, 26], [26, 27, 40]), ([26, 41], [26, 41]), ([42, 39, 0, 1, 2, 3, 4, 5, 6, 7, 8, 9, 10, 11, 12, 13, 14, 15, 16, 17, 18, 19, 20, 21, 22, 23, 24, 25, 26, 27, 28, 29, 30, 31, 32, 33, 34, 35, 36, 37, 38, 39, 40, 41, 42], [42])])
def laws_FnWordOut.B10 : List Nat := [0, 1, 3, 7, 15, 31, 63, 127, 255, 511, 1023, 2047, 2047, 8191, 16383, 32767, 65535, 65535, 262143, 524287, 1048575, 2097151, 4194303, 2097151, 16777215, 33554431, 67108863, 134217727, 134217727, 402653183, 134217727, 1207959551, 4160749567, 8455716863, 134217727, 17314086911, 134217727, 68853694463, 257832255487, 532710162431, 1099377410047, 2199023255551, 4398046511103, 8796093022207]
theorem laws_FnWordOut.tab10 : rtab .any (opsOf Tryz.f5 10) = laws_FnWordOut.T10 := by kernel_rfl
theorem laws_FnWordOut.bits10 : waitsOk laws_FnWordOut.T10.2 laws_FnWordOut.B10 = true := by kernel_rfl
attribute [local go_sem] Go.Instr.field Go.asAgg Go.part
set_option maxHeartbeats 8000000 in
set_option maxRecDepth 100000 in
theorem laws_FnWordOut.calls (k : Nat) (a0_0 : ByteArray) (a0_1 : Int) (r : Bool) (hr_ : r = true) (w : World) (h : laws_FnWordOut.f k a0_0 a0_1 = some r) :
  Calls Tryz.prog 5 #[.agg #[.string a0_0, .int .i64 a0_1]] w fun e w' => e = .returned (.bool r) ∧ Below w.heap.size w w' := by
 have hu23 := Tryz.underlying23
 have hu31 := Tryz.underlying31; have hu40 := Tryz.underlying40
 have HB := Aside0.mk (Below.refl w.heap.size w)
 have H : ((laws_zzFits2.f a0_0 a0_1).bind fun t123 => (if t123 = true then ((spec_DocRight.f k a0_0 a0_1).bind fun t124 => (if t124 = true then ((impl_AroundOf.f k a0_0 a0_1).bind fun bt125 => ((laws_one7.f a0_0 a0_1 15 0 (⟨#[]⟩ : ByteArray) false).bind fun bt141 => (if bt141.2.2.2 = true then ((laws_one7.f a0_0 a0_1 7 (bt125.2.2.2.2.2.2.2.2.2.2.2.2.1.size : Int) (⟨#[]⟩ : ByteArray) false).bind fun bt146 => (if bt146.2.2.2 = true then ((laws_one7.f a0_0 a0_1 20 0 (⟨#[]⟩ : ByteArray) false).bind fun bt151 => (if bt151.2.2.2 = true then ((laws_one7.f a0_0 a0_1 3 (bt125.2.2.2.2.2.2.2.2.2.2.2.2.1.size : Int) (⟨#[]⟩ : ByteArray) false).bind fun bt156 => (if bt156.2.2.2 = true then (if (bt141.1.toList == bt146.1.toList && (bt141.2.1 == bt146.2.1)) = true then (if (bt151.1.toList == bt156.1.toList && (bt151.2.1 == bt156.2.1)) = true then (if (bt146.2.2.1.size : Int) = (bt125.2.2.2.2.2.2.2.2.2.2.2.2.1.size : Int) then (if 0 ≤ a0_1 then (if a0_1 ≤ (a0_0.size : Int) then ((spec_Start.f k (a0_0.extract 0 (a0_1 : Int).toNat) (⟨#[32]⟩ : ByteArray) true).bind fun t161 => (some ((bt125.2.2.2.2.2.2.2.2.2.2.2.2.1.size : Int) == (wrap64 (((a0_0.extract 0 (a0_1 : Int).toNat).size : Int) - t161))))) else (none)) else (none)) else (some false)) else (some false)) else (some false)) else (none))) else (none))) else (none))) else (none)))) else (some true))) else (some true))) = some r := h
 clear h
 replace H := Option.bind_eq_some_iff.mp H
 obtain ⟨t123, A20, H⟩ := H
 replace H : (if t123 = true then ((spec_DocRight.f k a0_0 a0_1).bind fun t124 => (if t124 = true then ((impl_AroundOf.f k a0_0 a0_1).bind fun bt125 => ((laws_one7.f a0_0 a0_1 15 0 (⟨#[]⟩ : ByteArray) false).bind fun bt141 => (if bt141.2.2.2 = true then ((laws_one7.f a0_0 a0_1 7 (bt125.2.2.2.2.2.2.2.2.2.2.2.2.1.size : Int) (⟨#[]⟩ : ByteArray) false).bind fun bt146 => (if bt146.2.2.2 = true then ((laws_one7.f a0_0 a0_1 20 0 (⟨#[]⟩ : ByteArray) false).bind fun bt151 => (if bt151.2.2.2 = true then ((laws_one7.f a0_0 a0_1 3 (bt125.2.2.2.2.2.2.2.2.2.2.2.2.1.size : Int) (⟨#[]⟩ : ByteArray) false).bind fun bt156 => (if bt156.2.2.2 = true then (if (bt141.1.toList == bt146.1.toList && (bt141.2.1 == bt146.2.1)) = true then (if (bt151.1.toList == bt156.1.toList && (bt151.2.1 == bt156.2.1)) = true then (if (bt146.2.2.1.size : Int) = (bt125.2.2.2.2.2.2.2.2.2.2.2.2.1.size : Int) then (if 0 ≤ a0_1 then (if a0_1 ≤ (a0_0.size : Int) then ((spec_Start.f k (a0_0.extract 0 (a0_1 : Int).toNat) (⟨#[32]⟩ : ByteArray) true).bind fun t161 => (some ((bt125.2.2.2.2.2.2.2.2.2.2.2.2.1.size : Int) == (wrap64 (((a0_0.extract 0 (a0_1 : Int).toNat).size : Int) - t161))))) else (none)) else (none)) else (some false)) else (some false)) else (some false)) else (none))) else (none))) else (none))) else (none)))) else (some true))) else (some true)) = some r := H
 have A2 := Aside0.mk A20
 clear A20
 by_cases c3 : t123 = true
 ·subst c3
  have H1 : ((spec_DocRight.f k a0_0 a0_1).bind fun t124 => (if t124 = true then ((impl_AroundOf.f k a0_0 a0_1).bind fun bt125 => ((laws_one7.f a0_0 a0_1 15 0 (⟨#[]⟩ : ByteArray) false).bind fun bt141 => (if bt141.2.2.2 = true then ((laws_one7.f a0_0 a0_1 7 (bt125.2.2.2.2.2.2.2.2.2.2.2.2.1.size : Int) (⟨#[]⟩ : ByteArray) false).bind fun bt146 => (if bt146.2.2.2 = true then ((laws_one7.f a0_0 a0_1 20 0 (⟨#[]⟩ : ByteArray) false).bind fun bt151 => (if bt151.2.2.2 = true then ((laws_one7.f a0_0 a0_1 3 (bt125.2.2.2.2.2.2.2.2.2.2.2.2.1.size : Int) (⟨#[]⟩ : ByteArray) false).bind fun bt156 => (if bt156.2.2.2 = true then (if (bt141.1.toList == bt146.1.toList && (bt141.2.1 == bt146.2.1)) = true then (if (bt151.1.toList == bt156.1.toList && (bt151.2.1 == bt156.2.1)) = true then (if (bt146.2.2.1.size : Int) = (bt125.2.2.2.2.2.2.2.2.2.2.2.2.1.size : Int) then (if 0 ≤ a0_1 then (if a0_1 ≤ (a0_0.size : Int) then ((spec_Start.f k (a0_0.extract 0 (a0_1 : Int).toNat) (⟨#[32]⟩ : ByteArray) true).bind fun t161 => (some ((bt125.2.2.2.2.2.2.2.2.2.2.2.2.1.size : Int) == (wrap64 (((a0_0.extract 0 (a0_1 : Int).toNat).size : Int) - t161))))) else (none)) else (none)) else (some false)) else (some false)) else (some false)) else (none))) else (none))) else (none))) else (none)))) else (some true))) = some r := by rw [if_pos rfl] at H; exact H
  clear H; have H := H1; clear H1
  replace H := Option.bind_eq_some_iff.mp H
  obtain ⟨t124, A40, H⟩ := H
  replace H : (if t124 = true then ((impl_AroundOf.f k a0_0 a0_1).bind fun bt125 => ((laws_one7.f a0_0 a0_1 15 0 (⟨#[]⟩ : ByteArray) false).bind fun bt141 => (if bt141.2.2.2 = true then ((laws_one7.f a0_0 a0_1 7 (bt125.2.2.2.2.2.2.2.2.2.2.2.2.1.size : Int) (⟨#[]⟩ : ByteArray) false).bind fun bt146 => (if bt146.2.2.2 = true then ((laws_one7.f a0_0 a0_1 20 0 (⟨#[]⟩ : ByteArray) false).bind fun bt151 => (if bt151.2.2.2 = true then ((laws_one7.f a0_0 a0_1 3 (bt125.2.2.2.2.2.2.2.2.2.2.2.2.1.size : Int) (⟨#[]⟩ : ByteArray) false).bind fun bt156 => (if bt156.2.2.2 = true then (if (bt141.1.toList == bt146.1.toList && (bt141.2.1 == bt146.2.1)) = true then (if (bt151.1.toList == bt156.1.toList && (bt151.2.1 == bt156.2.1)) = true then (if (bt146.2.2.1.size : Int) = (bt125.2.2.2.2.2.2.2.2.2.2.2.2.1.size : Int) then (if 0 ≤ a0_1 then (if a0_1 ≤ (a0_0.size : Int) then ((spec_Start.f k (a0_0.extract 0 (a0_1 : Int).toNat) (⟨#[32]⟩ : ByteArray) true).bind fun t161 => (some ((bt125.2.2.2.2.2.2.2.2.2.2.2.2.1.size : Int) == (wrap64 (((a0_0.extract 0 (a0_1 : Int).toNat).size : Int) - t161))))) else (none)) else (none)) else (some false)) else (some false)) else (some false)) else (none))) else (none))) else (none))) else (none)))) else (some true)) = some r := H
  have A4 := Aside0.mk A40
  clear A40
  by_cases c5 : t124 = true
  ·subst c5
   have H1 : ((impl_AroundOf.f k a0_0 a0_1).bind fun bt125 => ((laws_one7.f a0_0 a0_1 15 0 (⟨#[]⟩ : ByteArray) false).bind fun bt141 => (if bt141.2.2.2 = true then ((laws_one7.f a0_0 a0_1 7 (bt125.2.2.2.2.2.2.2.2.2.2.2.2.1.size : Int) (⟨#[]⟩ : ByteArray) false).bind fun bt146 => (if bt146.2.2.2 = true then ((laws_one7.f a0_0 a0_1 20 0 (⟨#[]⟩ : ByteArray) false).bind fun bt151 => (if bt151.2.2.2 = true then ((laws_one7.f a0_0 a0_1 3 (bt125.2.2.2.2.2.2.2.2.2.2.2.2.1.size : Int) (⟨#[]⟩ : ByteArray) false).bind fun bt156 => (if bt156.2.2.2 = true then (if (bt141.1.toList == bt146.1.toList && (bt141.2.1 == bt146.2.1)) = true then (if (bt151.1.toList == bt156.1.toList && (bt151.2.1 == bt156.2.1)) = true then (if (bt146.2.2.1.size : Int) = (bt125.2.2.2.2.2.2.2.2.2.2.2.2.1.size : Int) then (if 0 ≤ a0_1 then (if a0_1 ≤ (a0_0.size : Int) then ((spec_Start.f k (a0_0.extract 0 (a0_1 : Int).toNat) (⟨#[32]⟩ : ByteArray) true).bind fun t161 => (some ((bt125.2.2.2.2.2.2.2.2.2.2.2.2.1.size : Int) == (wrap64 (((a0_0.extract 0 (a0_1 : Int).toNat).size : Int) - t161))))) else (none)) else (none)) else (some false)) else (some false)) else (some false)) else (none))) else (none))) else (none))) else (none)))) = some r := by rw [if_pos rfl] at H; exact H
   clear H; have H := H1; clear H1
   replace H := Option.bind_eq_some_iff.mp H
   obtain ⟨⟨t125, t126, t127, t128, t129, t130, t131, t132, t135, t136, t137, t138, t139, t140⟩, A60, H⟩ := H
   replace H : ((laws_one7.f a0_0 a0_1 15 0 (⟨#[]⟩ : ByteArray) false).bind fun bt141 => (if bt141.2.2.2 = true then ((laws_one7.f a0_0 a0_1 7 (t139.size : Int) (⟨#[]⟩ : ByteArray) false).bind fun bt146 => (if bt146.2.2.2 = true then ((laws_one7.f a0_0 a0_1 20 0 (⟨#[]⟩ : ByteArray) false).bind fun bt151 => (if bt151.2.2.2 = true then ((laws_one7.f a0_0 a0_1 3 (t139.size : Int) (⟨#[]⟩ : ByteArray) false).bind fun bt156 => (if bt156.2.2.2 = true then (if (bt141.1.toList == bt146.1.toList && (bt141.2.1 == bt146.2.1)) = true then (if (bt151.1.toList == bt156.1.toList && (bt151.2.1 == bt156.2.1)) = true then (if (bt146.2.2.1.size : Int) = (t139.size : Int) then (if 0 ≤ a0_1 then (if a0_1 ≤ (a0_0.size : Int) then ((spec_Start.f k (a0_0.extract 0 (a0_1 : Int).toNat) (⟨#[32]⟩ : ByteArray) true).bind fun t161 => (some ((t139.size : Int) == (wrap64 (((a0_0.extract 0 (a0_1 : Int).toNat).size : Int) - t161))))) else (none)) else (none)) else (some false)) else (some false)) else (some false)) else (none))) else (none))) else (none))) else (none))) = some r := H
   have A6 := Aside0.mk A60
   clear A60
   replace H := Option.bind_eq_some_iff.mp H
   obtain ⟨⟨t141, t142, t143, t144⟩, A70, H⟩ := H
   replace H : (if t144 = true then ((laws_one7.f a0_0 a0_1 7 (t139.size : Int) (⟨#[]⟩ : ByteArray) false).bind fun bt146 => (if bt146.2.2.2 = true then ((laws_one7.f a0_0 a0_1 20 0 (⟨#[]⟩ : ByteArray) false).bind fun bt151 => (if bt151.2.2.2 = true then ((laws_one7.f a0_0 a0_1 3 (t139.size : Int) (⟨#[]⟩ : ByteArray) false).bind fun bt156 => (if bt156.2.2.2 = true then (if (t141.toList == bt146.1.toList && (t142 == bt146.2.1)) = true then (if (bt151.1.toList == bt156.1.toList && (bt151.2.1 == bt156.2.1)) = true then (if (bt146.2.2.1.size : Int) = (t139.size : Int) then (if 0 ≤ a0_1 then (if a0_1 ≤ (a0_0.size : Int) then ((spec_Start.f k (a0_0.extract 0 (a0_1 : Int).toNat) (⟨#[32]⟩ : ByteArray) true).bind fun t161 => (some ((t139.size : Int) == (wrap64 (((a0_0.extract 0 (a0_1 : Int).toNat).size : Int) - t161))))) else (none)) else (none)) else (some false)) else (some false)) else (some false)) else (none))) else (none))) else (none))) else (none)) = some r := H
   have A7 := Aside0.mk A70
   clear A70
   by_cases c8 : t144 = true
   ·subst c8
    have H1 : ((laws_one7.f a0_0 a0_1 7 (t139.size : Int) (⟨#[]⟩ : ByteArray) false).bind fun bt146 => (if bt146.2.2.2 = true then ((laws_one7.f a0_0 a0_1 20 0 (⟨#[]⟩ : ByteArray) false).bind fun bt151 => (if bt151.2.2.2 = true then ((laws_one7.f a0_0 a0_1 3 (t139.size : Int) (⟨#[]⟩ : ByteArray) false).bind fun bt156 => (if bt156.2.2.2 = true then (if (t141.toList == bt146.1.toList && (t142 == bt146.2.1)) = true then (if (bt151.1.toList == bt156.1.toList && (bt151.2.1 == bt156.2.1)) = true then (if (bt146.2.2.1.size : Int) = (t139.size : Int) then (if 0 ≤ a0_1 then (if a0_1 ≤ (a0_0.size : Int) then ((spec_Start.f k (a0_0.extract 0 (a0_1 : Int).toNat) (⟨#[32]⟩ : ByteArray) true).bind fun t161 => (some ((t139.size : Int) == (wrap64 (((a0_0.extract 0 (a0_1 : Int).toNat).size : Int) - t161))))) else (none)) else (none)) else (some false)) else (some false)) else (some false)) else (none))) else (none))) else (none))) = some r := by rw [if_pos rfl] at H; exact H
    clear H; have H := H1; clear H1
    replace H := Option.bind_eq_some_iff.mp H
    obtain ⟨⟨t146, t147, t148, t149⟩, A90, H⟩ := H
    replace H : (if t149 = true then ((laws_one7.f a0_0 a0_1 20 0 (⟨#[]⟩ : ByteArray) false).bind fun bt151 => (if bt151.2.2.2 = true then ((laws_one7.f a0_0 a0_1 3 (t139.size : Int) (⟨#[]⟩ : ByteArray) false).bind fun bt156 => (if bt156.2.2.2 = true then (if (t141.toList == t146.toList && (t142 == t147)) = true then (if (bt151.1.toList == bt156.1.toList && (bt151.2.1 == bt156.2.1)) = true then (if (t148.size : Int) = (t139.size : Int) then (if 0 ≤ a0_1 then (if a0_1 ≤ (a0_0.size : Int) then ((spec_Start.f k (a0_0.extract 0 (a0_1 : Int).toNat) (⟨#[32]⟩ : ByteArray) true).bind fun t161 => (some ((t139.size : Int) == (wrap64 (((a0_0.extract 0 (a0_1 : Int).toNat).size : Int) - t161))))) else (none)) else (none)) else (some false)) else (some false)) else (some false)) else (none))) else (none))) else (none)) = some r := H
    have A9 := Aside0.mk A90
    clear A90
    by_cases c10 : t149 = true
    ·subst c10
     have H1 : ((laws_one7.f a0_0 a0_1 20 0 (⟨#[]⟩ : ByteArray) false).bind fun bt151 => (if bt151.2.2.2 = true then ((laws_one7.f a0_0 a0_1 3 (t139.size : Int) (⟨#[]⟩ : ByteArray) false).bind fun bt156 => (if bt156.2.2.2 = true then (if (t141.toList == t146.toList && (t142 == t147)) = true then (if (bt151.1.toList == bt156.1.toList && (bt151.2.1 == bt156.2.1)) = true then (if (t148.size : Int) = (t139.size : Int) then (if 0 ≤ a0_1 then (if a0_1 ≤ (a0_0.size : Int) then ((spec_Start.f k (a0_0.extract 0 (a0_1 : Int).toNat) (⟨#[32]⟩ : ByteArray) true).bind fun t161 => (some ((t139.size : Int) == (wrap64 (((a0_0.extract 0 (a0_1 : Int).toNat).size : Int) - t161))))) else (none)) else (none)) else (some false)) else (some false)) else (some false)) else (none))) else (none))) = some r := by rw [if_pos rfl] at H; exact H
     clear H; have H := H1; clear H1
     replace H := Option.bind_eq_some_iff.mp H
     obtain ⟨⟨t151, t152, t153, t154⟩, A110, H⟩ := H
     replace H : (if t154 = true then ((laws_one7.f a0_0 a0_1 3 (t139.size : Int) (⟨#[]⟩ : ByteArray) false).bind fun bt156 => (if bt156.2.2.2 = true then (if (t141.toList == t146.toList && (t142 == t147)) = true then (if (t151.toList == bt156.1.toList && (t152 == bt156.2.1)) = true then (if (t148.size : Int) = (t139.size : Int) then (if 0 ≤ a0_1 then (if a0_1 ≤ (a0_0.size : Int) then ((spec_Start.f k (a0_0.extract 0 (a0_1 : Int).toNat) (⟨#[32]⟩ : ByteArray) true).bind fun t161 => (some ((t139.size : Int) == (wrap64 (((a0_0.extract 0 (a0_1 : Int).toNat).size : Int) - t161))))) else (none)) else (none)) else (some false)) else (some false)) else (some false)) else (none))) else (none)) = some r := H
     have A11 := Aside0.mk A110
     clear A110
     by_cases c12 : t154 = true
     ·subst c12
      have H1 : ((laws_one7.f a0_0 a0_1 3 (t139.size : Int) (⟨#[]⟩ : ByteArray) false).bind fun bt156 => (if bt156.2.2.2 = true then (if (t141.toList == t146.toList && (t142 == t147)) = true then (if (t151.toList == bt156.1.toList && (t152 == bt156.2.1)) = true then (if (t148.size : Int) = (t139.size : Int) then (if 0 ≤ a0_1 then (if a0_1 ≤ (a0_0.size : Int) then ((spec_Start.f k (a0_0.extract 0 (a0_1 : Int).toNat) (⟨#[32]⟩ : ByteArray) true).bind fun t161 => (some ((t139.size : Int) == (wrap64 (((a0_0.extract 0 (a0_1 : Int).toNat).size : Int) - t161))))) else (none)) else (none)) else (some false)) else (some false)) else (some false)) else (none))) = some r := by rw [if_pos rfl] at H; exact H
      clear H; have H := H1; clear H1
      replace H := Option.bind_eq_some_iff.mp H
      obtain ⟨⟨t156, t157, t158, t159⟩, A130, H⟩ := H
      replace H : (if t159 = true then (if (t141.toList == t146.toList && (t142 == t147)) = true then (if (t151.toList == t156.toList && (t152 == t157)) = true then (if (t148.size : Int) = (t139.size : Int) then (if 0 ≤ a0_1 then (if a0_1 ≤ (a0_0.size : Int) then ((spec_Start.f k (a0_0.extract 0 (a0_1 : Int).toNat) (⟨#[32]⟩ : ByteArray) true).bind fun t161 => (some ((t139.size : Int) == (wrap64 (((a0_0.extract 0 (a0_1 : Int).toNat).size : Int) - t161))))) else (none)) else (none)) else (some false)) else (some false)) else (some false)) else (none)) = some r := H
      have A13 := Aside0.mk A130
      clear A130
      by_cases c14 : t159 = true
      ·subst c14
       have H1 : (if (t141.toList == t146.toList && (t142 == t147)) = true then (if (t151.toList == t156.toList && (t152 == t157)) = true then (if (t148.size : Int) = (t139.size : Int) then (if 0 ≤ a0_1 then (if a0_1 ≤ (a0_0.size : Int) then ((spec_Start.f k (a0_0.extract 0 (a0_1 : Int).toNat) (⟨#[32]⟩ : ByteArray) true).bind fun t161 => (some ((t139.size : Int) == (wrap64 (((a0_0.extract 0 (a0_1 : Int).toNat).size : Int) - t161))))) else (none)) else (none)) else (some false)) else (some false)) else (some false)) = some r := by rw [if_pos rfl] at H; exact H
       clear H; have H := H1; clear H1
       by_cases c15 : (t141.toList == t146.toList && (t142 == t147)) = true
       ·rw [if_pos c15] at H
        have c15b0 : (t141.toList == t146.toList && (t142 == t147)) = true := c15
        (try (have c15b1 : decide (t141.toList = t146.toList && (t142 == t147)) = true := by simpa using c15))
        (try (have c15b2 : (t141.toList == t146.toList && (t142 == t147)) = true := by simpa using c15))
        clear c15
        by_cases c16 : (t151.toList == t156.toList && (t152 == t157)) = true
        ·rw [if_pos c16] at H
         have c16b0 : (t151.toList == t156.toList && (t152 == t157)) = true := c16
         (try (have c16b1 : decide (t151.toList = t156.toList && (t152 == t157)) = true := by simpa using c16))
         (try (have c16b2 : (t151.toList == t156.toList && (t152 == t157)) = true := by simpa using c16))
         clear c16
         by_cases c17 : (t148.size : Int) = (t139.size : Int)
         ·rw [if_pos c17] at H
          have c17b0 : ((t148.size : Int) == (t139.size : Int)) = true := beq_iff_eq.mpr c17
          have c17b1 : ((t148.size : Int) != (t139.size : Int)) = false := bne_eq_false_iff_eq.mpr c17
          have c17b2 : (t148.size == t139.size) = true := by first | simpa using c17 | (simp at c17 ⊢; omega)
          clear c17
          by_cases c18 : 0 ≤ a0_1
          ·rw [if_pos c18] at H
           have c18b0 := eq_true c18
           have c18b1 : decide (0 ≤ a0_1) = true := decide_eq_true c18
           clear c18
           by_cases c19 : a0_1 ≤ (a0_0.size : Int)
           ·rw [if_pos c19] at H
            have c19b0 := eq_true c19
            have c19b1 : decide (a0_1 ≤ (a0_0.size : Int)) = true := decide_eq_true c19
            clear c19
            have c20b0 := eq_true (of_decide_eq_true (by first | (with_reducible assumption) | assumption) : 0 ≤ a0_1)
            have c21b0 := eq_true (of_decide_eq_true (by first | (with_reducible assumption) | assumption) : a0_1 ≤ (a0_0.size : Int))
            replace H := Option.bind_eq_some_iff.mp H
            obtain ⟨t161, A220, H⟩ := H
            replace H : (some ((t139.size : Int) == (wrap64 (((a0_0.extract 0 (a0_1 : Int).toNat).size : Int) - t161)))) = some r := H
            have A22 := Aside0.mk A220
            clear A220
            obtain rfl := Option.some.inj H
            go_enter Tryz.func5, Tryz.ntmps5
            try go_wp2_with (first | ((with_reducible refine gate_dst (N := 1) rfl ?_); (try (refine gate_guard (by rfl) ?_; dsimp only)); refine box_event ?hg (N := 1) ?hd (cs := #[.string a0_0, .int .i64 a0_1]) (t := 23) ?hr ?_; (case hd => rfl); (case hg => rfl); (case hr => first | (go_simp; done) | (go_simp; rfl)); intro gb122 hg w23 hbox hb; have n0_ := Aside0.mk (below_step (by repeat (first | (with_reducible first | exact HB.out | apply below_alloc | apply pw_below_drewN | apply below_drew1) | exact HB.out)) hb); have n1_ := Aside0.mk (hbox); have n2_ := Aside0.mk ((by rw [hg]; exact (below_size (by repeat (first | (with_reducible first | exact HB.out | apply below_alloc | apply pw_below_drewN | apply below_drew1) | exact HB.out))) : w.heap.size ≤ gb122)); have n3_ := Aside0.mk ((by rw [hg]; exact (below_size (by repeat (first | (with_reducible first | exact HB.out | apply below_alloc | apply pw_below_drewN | apply below_drew1) | exact HB.out))) : w.heap.size ≤ gb122)); clear HB; have HB := n0_; have BK122 := n1_; have GW122 := n2_; have GE122 := n3_; clear n0_ n1_ n2_ n3_; clear hb hbox hg; have hcz24_0 : w23.cell? ⟨gb122, 0, none⟩ = some (.string a0_0) := (blk_cell BK122.out 0).trans rfl; have hcz24_1 : w23.cell? ⟨gb122, 1, none⟩ = some (.int .i64 a0_1) := (blk_cell BK122.out 1).trans rfl; have hfz24_0 := blk_frozen BK122.out 0; have hfz24_1 := blk_frozen BK122.out 1) | ((with_reducible refine gate_callee (f := 6) rfl ?_); refine goesL_ (some 17) rfl rfl Tryz.func6 (by kernel_rfl) rfl #[.agg #[.string a0_0, .int .i64 a0_1]] rfl (by (try simp only [List.map_toArray, List.map_cons, List.map_nil]); first | done | rfl | (simp only [List.length_drop, List.length_take]; rfl) | (simp only [Int.toNat_natCast, ByteArray.extract_zero_size]; rfl)) ?_; (with_reducible refine (laws_zzFits2.calls a0_0 a0_1 true _ A2.out).mono ?_); rintro e w25 ⟨rfl, hb⟩; refine ⟨_, rfl, ?_⟩; have n0_ := Aside0.mk (blk_below (g := gb122) (o := .cells #[.string a0_0, .int .i64 a0_1] 23 (0, 0)) (by (with_reducible repeat (first | refine blk_drewN ?_ _ | refine blk_drew ?_ | refine blk_alloc ?_ _)); exact BK122.out) hb); have n1_ := Aside0.mk (below_step (by repeat (first | (with_reducible first | exact HB.out | apply below_alloc | apply pw_below_drewN | apply below_drew1 | refine below_set ?_ GE122.out) | exact HB.out)) hb); clear BK122; clear HB; have BK122 := n0_; have HB := n1_; clear n0_ n1_; (try clear hb); (try clear hb2); (try clear hk); (try clear hi); have hcz26_0 : w25.cell? ⟨gb122, 0, none⟩ = some (.string a0_0) := (blk_cell BK122.out 0).trans rfl; have hcz26_1 : w25.cell? ⟨gb122, 1, none⟩ = some (.int .i64 a0_1) := (blk_cell BK122.out 1).trans rfl; have hfz26_0 := blk_frozen BK122.out 0; have hfz26_1 := blk_frozen BK122.out 1) | ((with_reducible refine gate_callee (f := 11) rfl ?_); refine goesL_ (some 20) rfl rfl Tryz.func11 (by kernel_rfl) rfl #[.agg #[.string a0_0, .int .i64 a0_1]] rfl (by (try simp only [List.map_toArray, List.map_cons, List.map_nil]); first | done | rfl | (simp only [List.length_drop, List.length_take]; rfl) | (simp only [Int.toNat_natCast, ByteArray.extract_zero_size]; rfl)) ?_; (with_reducible refine (spec_DocRight.calls k a0_0 a0_1 true _ A4.out).mono ?_); rintro e w27 ⟨rfl, hb⟩; refine ⟨_, rfl, ?_⟩; have n0_ := Aside0.mk (blk_below (g := gb122) (o := .cells #[.string a0_0, .int .i64 a0_1] 23 (0, 0)) (by (with_reducible repeat (first | refine blk_drewN ?_ _ | refine blk_drew ?_ | refine blk_alloc ?_ _)); exact BK122.out) hb); have n1_ := Aside0.mk (below_step (by repeat (first | (with_reducible first | exact HB.out | apply below_alloc | apply pw_below_drewN | apply below_drew1 | refine below_set ?_ GE122.out) | exact HB.out)) hb); clear BK122; clear HB; have BK122 := n0_; have HB := n1_; clear n0_ n1_; (try clear hb); (try clear hb2); (try clear hk); (try clear hi); have hcz28_0 : w27.cell? ⟨gb122, 0, none⟩ = some (.string a0_0) := (blk_cell BK122.out 0).trans rfl; have hcz28_1 : w27.cell? ⟨gb122, 1, none⟩ = some (.int .i64 a0_1) := (blk_cell BK122.out 1).trans rfl; have hfz28_0 := blk_frozen BK122.out 0; have hfz28_1 := blk_frozen BK122.out 1) | ((with_reducible refine gate_callee (f := 16) rfl ?_); refine goesL_ (some 23) rfl rfl Tryz.func16 (by kernel_rfl) rfl #[.agg #[.string a0_0, .int .i64 a0_1]] rfl (by (try simp only [List.map_toArray, List.map_cons, List.map_nil]); first | done | rfl | (simp only [List.length_drop, List.length_take]; rfl) | (simp only [Int.toNat_natCast, ByteArray.extract_zero_size]; rfl)) ?_; (with_reducible refine (impl_AroundOf.calls k a0_0 a0_1 t125 t126 t127 t128 t129 t130 t131 t132 t135 t136 t137 t138 t139 t140 _ A6.out).mono ?_); rintro e w29 ⟨v133, rfl, ho0, hb⟩; refine ⟨_, rfl, ?_⟩; have n0_ := Aside0.mk (Kd.R_lower ho0 (below_size (by repeat (first | (with_reducible first | exact HB.out | apply below_alloc | apply pw_below_drewN | apply below_drew1 | refine below_set ?_ GE122.out) | exact HB.out)))); have n1_ := Aside0.mk (blk_below (g := gb122) (o := .cells #[.string a0_0, .int .i64 a0_1] 23 (0, 0)) (by (with_reducible repeat (first | refine blk_drewN ?_ _ | refine blk_drew ?_ | refine blk_alloc ?_ _)); exact BK122.out) hb); have n2_ := Aside0.mk (below_step (by repeat (first | (with_reducible first | exact HB.out | apply below_alloc | apply pw_below_drewN | apply below_drew1 | refine below_set ?_ GE122.out) | exact HB.out)) hb); clear BK122; clear HB; have HO134 := n0_; have BK122 := n1_; have HB := n2_; clear n0_ n1_ n2_; (try clear hb); (try clear hb2); (try clear hk); (try clear hi); (try clear ho0); have hcz30_0 : w29.cell? ⟨gb122, 0, none⟩ = some (.string a0_0) := (blk_cell BK122.out 0).trans rfl; have hcz30_1 : w29.cell? ⟨gb122, 1, none⟩ = some (.int .i64 a0_1) := (blk_cell BK122.out 1).trans rfl; have hfz30_0 := blk_frozen BK122.out 0; have hfz30_1 := blk_frozen BK122.out 1) | ((with_reducible refine gate_callee (f := 14) rfl ?_); refine goesL_ (some 29) rfl rfl Tryz.func14 (by kernel_rfl) rfl #[.agg #[.string a0_0, .int .i64 a0_1], .agg #[.int .i64 15, .int .i64 0, .string (⟨#[]⟩ : ByteArray), .bool false]] rfl (by (try simp only [List.map_toArray, List.map_cons, List.map_nil]); first | done | rfl | (simp only [List.length_drop, List.length_take]; rfl) | (simp only [Int.toNat_natCast, ByteArray.extract_zero_size]; rfl)) ?_; (with_reducible refine (laws_one7.calls a0_0 a0_1 15 0 (⟨#[]⟩ : ByteArray) false t141 t142 t143 true _ A7.out).mono ?_); rintro e w31 ⟨rfl, hb⟩; refine ⟨_, rfl, ?_⟩; have n0_ := Aside0.mk (Kd.R_below (by (with_reducible repeat (first | apply Kd.R_alloc | apply Kd.R_drewN | apply Kd.R_drew)); exact HO134.out) hb); have n1_ := Aside0.mk (blk_below (g := gb122) (o := .cells #[.string a0_0, .int .i64 a0_1] 23 (0, 0)) (by (with_reducible repeat (first | refine blk_drewN ?_ _ | refine blk_drew ?_ | refine blk_alloc ?_ _)); exact BK122.out) hb); have n2_ := Aside0.mk (below_step (by repeat (first | (with_reducible first | exact HB.out | apply below_alloc | apply pw_below_drewN | apply below_drew1 | refine below_set ?_ GE122.out) | exact HB.out)) hb); clear HO134; clear BK122; clear HB; have HO134 := n0_; have BK122 := n1_; have HB := n2_; clear n0_ n1_ n2_; (try clear hb); (try clear hb2); (try clear hk); (try clear hi)) | ((with_reducible refine gate_dst (N := 4) rfl ?_); (try (refine gate_guard (by rfl) ?_; dsimp only)); refine box_event ?hg (N := 4) ?hd (cs := #[.string (⟨#[]⟩ : ByteArray), .int .i64 0]) (t := 23) ?hr ?_; (case hd => rfl); (case hg => rfl); (case hr => first | (go_simp; done) | (go_simp; rfl)); intro gb145 hg w32 hbox hb; have n0_ := Aside0.mk (Kd.R_below (by (with_reducible repeat (first | apply Kd.R_alloc | apply Kd.R_drewN | apply Kd.R_drew)); exact HO134.out) hb); have n1_ := Aside0.mk (blk_below (g := gb122) (o := .cells #[.string a0_0, .int .i64 a0_1] 23 (0, 0)) (by (with_reducible repeat (first | refine blk_drewN ?_ _ | refine blk_drew ?_ | refine blk_alloc ?_ _)); exact BK122.out) hb); have n2_ := Aside0.mk (below_step (by repeat (first | (with_reducible first | exact HB.out | apply below_alloc | apply pw_below_drewN | apply below_drew1 | refine below_set ?_ GE122.out) | exact HB.out)) hb); have n3_ := Aside0.mk (hbox); have n4_ := Aside0.mk ((by rw [hg]; exact (below_size (by repeat (first | (with_reducible first | exact HB.out | apply below_alloc | apply pw_below_drewN | apply below_drew1 | refine below_set ?_ GE122.out) | exact HB.out))) : w.heap.size ≤ gb145)); have n5_ := Aside0.mk ((by rw [hg]; exact (below_size (by repeat (first | (with_reducible first | exact HB.out | apply below_alloc | apply pw_below_drewN | apply below_drew1 | refine below_set ?_ GE122.out) | exact HB.out))) : w.heap.size ≤ gb145)); have n6_ := Aside0.mk ((by rw [hg]; exact Nat.ne_of_lt (blk_lt (g := gb122) (o := .cells #[.string a0_0, .int .i64 a0_1] 23 (0, 0)) (by (with_reducible repeat (first | refine blk_drewN ?_ _ | refine blk_drew ?_ | refine blk_alloc ?_ _)); exact BK122.out)) : gb122 ≠ gb145)); have n7_ := Aside0.mk ((by rw [hg]; exact Nat.ne_of_gt (blk_lt (g := gb122) (o := .cells #[.string a0_0, .int .i64 a0_1] 23 (0, 0)) (by (with_reducible repeat (first | refine blk_drewN ?_ _ | refine blk_drew ?_ | refine blk_alloc ?_ _)); exact BK122.out)) : gb145 ≠ gb122)); clear HO134; clear BK122; clear HB; have HO134 := n0_; have BK122 := n1_; have HB := n2_; have BK145 := n3_; have GW145 := n4_; have GE145 := n5_; have NB122_145 := n6_; have NB145_122 := n7_; clear n0_ n1_ n2_ n3_ n4_ n5_ n6_ n7_; clear hb hbox hg; have hnb33 := NB145_122.out; have hnc33 := NB122_145.out; have hcz34_0 : w32.cell? ⟨gb145, 0, none⟩ = some (.string (⟨#[]⟩ : ByteArray)) := (blk_cell BK145.out 0).trans rfl; have hcz34_1 : w32.cell? ⟨gb145, 1, none⟩ = some (.int .i64 0) := (blk_cell BK145.out 1).trans rfl; have hfz34_0 := blk_frozen BK145.out 0; have hfz34_1 := blk_frozen BK145.out 1; have hcz35_0 : w32.cell? ⟨gb122, 0, none⟩ = some (.string a0_0) := (blk_cell BK122.out 0).trans rfl; have hcz35_1 : w32.cell? ⟨gb122, 1, none⟩ = some (.int .i64 a0_1) := (blk_cell BK122.out 1).trans rfl; have hfz35_0 := blk_frozen BK122.out 0; have hfz35_1 := blk_frozen BK122.out 1) | ((with_reducible refine gate_callee (f := 14) rfl ?_); refine goesL_ (some 37) rfl rfl Tryz.func14 (by kernel_rfl) rfl #[.agg #[.string a0_0, .int .i64 a0_1], .agg #[.int .i64 7, .int .i64 (t139.size : Int), .string (⟨#[]⟩ : ByteArray), .bool false]] rfl (by (try simp only [List.map_toArray, List.map_cons, List.map_nil]); first | done | rfl | (simp only [List.length_drop, List.length_take]; rfl) | (simp only [Int.toNat_natCast, ByteArray.extract_zero_size]; rfl)) ?_; (with_reducible refine (laws_one7.calls a0_0 a0_1 7 (t139.size : Int) (⟨#[]⟩ : ByteArray) false t146 t147 t148 true _ A9.out).mono ?_); rintro e w36 ⟨rfl, hb⟩; refine ⟨_, rfl, ?_⟩; have n0_ := Aside0.mk (Kd.R_below (by (with_reducible repeat (first | apply Kd.R_alloc | apply Kd.R_drewN | apply Kd.R_drew)); exact (Kd.R_mono (Kd.R_far (p := ⟨gb145, 1, none⟩) (Kd.R_far (p := ⟨gb145, 0, none⟩) (Kd.R_types HO134.out BK145.out (by decide)) (fun _ hk => hk.2) (.string t141)) (fun _ hk => hk.2) (.int .i64 t142)) (fun _ h_ => h_.1))) hb); have n1_ := Aside0.mk (blk_below (g := gb122) (o := .cells #[.string a0_0, .int .i64 a0_1] 23 (0, 0)) (by (with_reducible repeat (first | refine blk_drewN ?_ _ | refine blk_drew ?_ | refine blk_alloc ?_ _)); refine blk_far ?_ NB122_145.out _; (with_reducible repeat (first | refine blk_drewN ?_ _ | refine blk_drew ?_ | refine blk_alloc ?_ _)); refine blk_far ?_ NB122_145.out _; (with_reducible repeat (first | refine blk_drewN ?_ _ | refine blk_drew ?_ | refine blk_alloc ?_ _)); exact BK122.out) hb); have n2_ := Aside0.mk (blk_below (g := gb145) (o := .cells #[.string t141, .int .i64 t142] 23 (0, 0)) (by (with_reducible repeat (first | refine blk_drewN ?_ _ | refine blk_drew ?_ | refine blk_alloc ?_ _)); refine blk_put (cs := #[.string t141, .int .i64 0]) ?_ 1 _ rfl; (with_reducible repeat (first | refine blk_drewN ?_ _ | refine blk_drew ?_ | refine blk_alloc ?_ _)); refine blk_put (cs := #[.string (⟨#[]⟩ : ByteArray), .int .i64 0]) ?_ 0 _ rfl; (with_reducible repeat (first | refine blk_drewN ?_ _ | refine blk_drew ?_ | refine blk_alloc ?_ _)); exact BK145.out) hb); have n3_ := Aside0.mk (below_step (by repeat (first | (with_reducible first | exact HB.out | apply below_alloc | apply pw_below_drewN | apply below_drew1 | refine below_set ?_ GE122.out | refine below_set ?_ GE145.out) | exact HB.out)) hb); clear HO134; clear BK122; clear BK145; clear HB; have HO134 := n0_; have BK122 := n1_; have BK145 := n2_; have HB := n3_; clear n0_ n1_ n2_ n3_; (try clear hb); (try clear hb2); (try clear hk); (try clear hi)) | ((with_reducible refine gate_dst (N := 7) rfl ?_); (try (refine gate_guard (by rfl) ?_; dsimp only)); refine box_event ?hg (N := 7) ?hd (cs := #[.string (⟨#[]⟩ : ByteArray), .int .i64 0]) (t := 23) ?hr ?_; (case hd => rfl); (case hg => rfl); (case hr => first | (go_simp; done) | (go_simp; rfl)); intro gb150 hg w37 hbox hb; have n0_ := Aside0.mk (Kd.R_below (by (with_reducible repeat (first | apply Kd.R_alloc | apply Kd.R_drewN | apply Kd.R_drew)); exact HO134.out) hb); have n1_ := Aside0.mk (blk_below (g := gb122) (o := .cells #[.string a0_0, .int .i64 a0_1] 23 (0, 0)) (by (with_reducible repeat (first | refine blk_drewN ?_ _ | refine blk_drew ?_ | refine blk_alloc ?_ _)); exact BK122.out) hb); have n2_ := Aside0.mk (blk_below (g := gb145) (o := .cells #[.string t141, .int .i64 t142] 23 (0, 0)) (by (with_reducible repeat (first | refine blk_drewN ?_ _ | refine blk_drew ?_ | refine blk_alloc ?_ _)); exact BK145.out) hb); have n3_ := Aside0.mk (below_step (by repeat (first | (with_reducible first | exact HB.out | apply below_alloc | apply pw_below_drewN | apply below_drew1 | refine below_set ?_ GE122.out | refine below_set ?_ GE145.out) | exact HB.out)) hb); have n4_ := Aside0.mk (hbox); have n5_ := Aside0.mk ((by rw [hg]; exact (below_size (by repeat (first | (with_reducible first | exact HB.out | apply below_alloc | apply pw_below_drewN | apply below_drew1 | refine below_set ?_ GE122.out | refine below_set ?_ GE145.out) | exact HB.out))) : w.heap.size ≤ gb150)); have n6_ := Aside0.mk ((by rw [hg]; exact (below_size (by repeat (first | (with_reducible first | exact HB.out | apply below_alloc | apply pw_below_drewN | apply below_drew1 | refine below_set ?_ GE122.out | refine below_set ?_ GE145.out) | exact HB.out))) : w.heap.size ≤ gb150)); have n7_ := Aside0.mk ((by rw [hg]; exact Nat.ne_of_lt (blk_lt (g := gb122) (o := .cells #[.string a0_0, .int .i64 a0_1] 23 (0, 0)) (by (with_reducible repeat (first | refine blk_drewN ?_ _ | refine blk_drew ?_ | refine blk_alloc ?_ _)); exact BK122.out)) : gb122 ≠ gb150)); have n8_ := Aside0.mk ((by rw [hg]; exact Nat.ne_of_gt (blk_lt (g := gb122) (o := .cells #[.string a0_0, .int .i64 a0_1] 23 (0, 0)) (by (with_reducible repeat (first | refine blk_drewN ?_ _ | refine blk_drew ?_ | refine blk_alloc ?_ _)); exact BK122.out)) : gb150 ≠ gb122)); have n9_ := Aside0.mk ((by rw [hg]; exact Nat.ne_of_lt (blk_lt (g := gb145) (o := .cells #[.string t141, .int .i64 t142] 23 (0, 0)) (by (with_reducible repeat (first | refine blk_drewN ?_ _ | refine blk_drew ?_ | refine blk_alloc ?_ _)); exact BK145.out)) : gb145 ≠ gb150)); have n10_ := Aside0.mk ((by rw [hg]; exact Nat.ne_of_gt (blk_lt (g := gb145) (o := .cells #[.string t141, .int .i64 t142] 23 (0, 0)) (by (with_reducible repeat (first | refine blk_drewN ?_ _ | refine blk_drew ?_ | refine blk_alloc ?_ _)); exact BK145.out)) : gb150 ≠ gb145)); clear HO134; clear BK122; clear BK145; clear HB; have HO134 := n0_; have BK122 := n1_; have BK145 := n2_; have HB := n3_; have BK150 := n4_; have GW150 := n5_; have GE150 := n6_; have NB122_150 := n7_; have NB150_122 := n8_; have NB145_150 := n9_; have NB150_145 := n10_; clear n0_ n1_ n2_ n3_ n4_ n5_ n6_ n7_ n8_ n9_ n10_; clear hb hbox hg; have hnb38 := NB150_122.out; have hnc38 := NB122_150.out; have hnb39 := NB150_145.out; have hnc39 := NB145_150.out; have hcz40_0 : w37.cell? ⟨gb150, 0, none⟩ = some (.string (⟨#[]⟩ : ByteArray)) := (blk_cell BK150.out 0).trans rfl; have hcz40_1 : w37.cell? ⟨gb150, 1, none⟩ = some (.int .i64 0) := (blk_cell BK150.out 1).trans rfl; have hfz40_0 := blk_frozen BK150.out 0; have hfz40_1 := blk_frozen BK150.out 1; have hcz41_0 : w37.cell? ⟨gb122, 0, none⟩ = some (.string a0_0) := (blk_cell BK122.out 0).trans rfl; have hcz41_1 : w37.cell? ⟨gb122, 1, none⟩ = some (.int .i64 a0_1) := (blk_cell BK122.out 1).trans rfl; have hfz41_0 := blk_frozen BK122.out 0; have hfz41_1 := blk_frozen BK122.out 1) | ((with_reducible refine gate_callee (f := 14) rfl ?_); refine goesL_ (some 44) rfl rfl Tryz.func14 (by kernel_rfl) rfl #[.agg #[.string a0_0, .int .i64 a0_1], .agg #[.int .i64 20, .int .i64 0, .string (⟨#[]⟩ : ByteArray), .bool false]] rfl (by (try simp only [List.map_toArray, List.map_cons, List.map_nil]); first | done | rfl | (simp only [List.length_drop, List.length_take]; rfl) | (simp only [Int.toNat_natCast, ByteArray.extract_zero_size]; rfl)) ?_; (with_reducible refine (laws_one7.calls a0_0 a0_1 20 0 (⟨#[]⟩ : ByteArray) false t151 t152 t153 true _ A11.out).mono ?_); rintro e w42 ⟨rfl, hb⟩; refine ⟨_, rfl, ?_⟩; have n0_ := Aside0.mk (Kd.R_below (by (with_reducible repeat (first | apply Kd.R_alloc | apply Kd.R_drewN | apply Kd.R_drew)); exact (Kd.R_mono (Kd.R_far (p := ⟨gb150, 1, none⟩) (Kd.R_far (p := ⟨gb150, 0, none⟩) (Kd.R_types HO134.out BK150.out (by decide)) (fun _ hk => hk.2) (.string t146)) (fun _ hk => hk.2) (.int .i64 t147)) (fun _ h_ => h_.1))) hb); have n1_ := Aside0.mk (blk_below (g := gb122) (o := .cells #[.string a0_0, .int .i64 a0_1] 23 (0, 0)) (by (with_reducible repeat (first | refine blk_drewN ?_ _ | refine blk_drew ?_ | refine blk_alloc ?_ _)); refine blk_far ?_ NB122_150.out _; (with_reducible repeat (first | refine blk_drewN ?_ _ | refine blk_drew ?_ | refine blk_alloc ?_ _)); refine blk_far ?_ NB122_150.out _; (with_reducible repeat (first | refine blk_drewN ?_ _ | refine blk_drew ?_ | refine blk_alloc ?_ _)); exact BK122.out) hb); have n2_ := Aside0.mk (blk_below (g := gb145) (o := .cells #[.string t141, .int .i64 t142] 23 (0, 0)) (by (with_reducible repeat (first | refine blk_drewN ?_ _ | refine blk_drew ?_ | refine blk_alloc ?_ _)); refine blk_far ?_ NB145_150.out _; (with_reducible repeat (first | refine blk_drewN ?_ _ | refine blk_drew ?_ | refine blk_alloc ?_ _)); refine blk_far ?_ NB145_150.out _; (with_reducible repeat (first | refine blk_drewN ?_ _ | refine blk_drew ?_ | refine blk_alloc ?_ _)); exact BK145.out) hb); have n3_ := Aside0.mk (blk_below (g := gb150) (o := .cells #[.string t146, .int .i64 t147] 23 (0, 0)) (by (with_reducible repeat (first | refine blk_drewN ?_ _ | refine blk_drew ?_ | refine blk_alloc ?_ _)); refine blk_put (cs := #[.string t146, .int .i64 0]) ?_ 1 _ rfl; (with_reducible repeat (first | refine blk_drewN ?_ _ | refine blk_drew ?_ | refine blk_alloc ?_ _)); refine blk_put (cs := #[.string (⟨#[]⟩ : ByteArray), .int .i64 0]) ?_ 0 _ rfl; (with_reducible repeat (first | refine blk_drewN ?_ _ | refine blk_drew ?_ | refine blk_alloc ?_ _)); exact BK150.out) hb); have n4_ := Aside0.mk (below_step (by repeat (first | (with_reducible first | exact HB.out | apply below_alloc | apply pw_below_drewN | apply below_drew1 | refine below_set ?_ GE122.out | refine below_set ?_ GE145.out | refine below_set ?_ GE150.out) | exact HB.out)) hb); clear HO134; clear BK122; clear BK145; clear BK150; clear HB; have HO134 := n0_; have BK122 := n1_; have BK145 := n2_; have BK150 := n3_; have HB := n4_; clear n0_ n1_ n2_ n3_ n4_; (try clear hb); (try clear hb2); (try clear hk); (try clear hi)) | ((with_reducible refine gate_dst (N := 10) rfl ?_); (try (refine gate_guard (by rfl) ?_; dsimp only)); refine box_event ?hg (N := 10) ?hd (cs := #[.string (⟨#[]⟩ : ByteArray), .int .i64 0]) (t := 23) ?hr ?_; (case hd => rfl); (case hg => rfl); (case hr => first | (go_simp; done) | (go_simp; rfl)); intro gb155 hg w43 hbox hb; have n0_ := Aside0.mk (Kd.R_below (by (with_reducible repeat (first | apply Kd.R_alloc | apply Kd.R_drewN | apply Kd.R_drew)); exact HO134.out) hb); have n1_ := Aside0.mk (blk_below (g := gb122) (o := .cells #[.string a0_0, .int .i64 a0_1] 23 (0, 0)) (by (with_reducible repeat (first | refine blk_drewN ?_ _ | refine blk_drew ?_ | refine blk_alloc ?_ _)); exact BK122.out) hb); have n2_ := Aside0.mk (blk_below (g := gb145) (o := .cells #[.string t141, .int .i64 t142] 23 (0, 0)) (by (with_reducible repeat (first | refine blk_drewN ?_ _ | refine blk_drew ?_ | refine blk_alloc ?_ _)); exact BK145.out) hb); have n3_ := Aside0.mk (blk_below (g := gb150) (o := .cells #[.string t146, .int .i64 t147] 23 (0, 0)) (by (with_reducible repeat (first | refine blk_drewN ?_ _ | refine blk_drew ?_ | refine blk_alloc ?_ _)); exact BK150.out) hb); have n4_ := Aside0.mk (below_step (by repeat (first | (with_reducible first | exact HB.out | apply below_alloc | apply pw_below_drewN | apply below_drew1 | refine below_set ?_ GE122.out | refine below_set ?_ GE145.out | refine below_set ?_ GE150.out) | exact HB.out)) hb); have n5_ := Aside0.mk (hbox); have n6_ := Aside0.mk ((by rw [hg]; exact (below_size (by repeat (first | (with_reducible first | exact HB.out | apply below_alloc | apply pw_below_drewN | apply below_drew1 | refine below_set ?_ GE122.out | refine below_set ?_ GE145.out | refine below_set ?_ GE150.out) | exact HB.out))) : w.heap.size ≤ gb155)); have n7_ := Aside0.mk ((by rw [hg]; exact (below_size (by repeat (first | (with_reducible first | exact HB.out | apply below_alloc | apply pw_below_drewN | apply below_drew1 | refine below_set ?_ GE122.out | refine below_set ?_ GE145.out | refine below_set ?_ GE150.out) | exact HB.out))) : w.heap.size ≤ gb155)); have n8_ := Aside0.mk ((by rw [hg]; exact Nat.ne_of_lt (blk_lt (g := gb122) (o := .cells #[.string a0_0, .int .i64 a0_1] 23 (0, 0)) (by (with_reducible repeat (first | refine blk_drewN ?_ _ | refine blk_drew ?_ | refine blk_alloc ?_ _)); exact BK122.out)) : gb122 ≠ gb155)); have n9_ := Aside0.mk ((by rw [hg]; exact Nat.ne_of_gt (blk_lt (g := gb122) (o := .cells #[.string a0_0, .int .i64 a0_1] 23 (0, 0)) (by (with_reducible repeat (first | refine blk_drewN ?_ _ | refine blk_drew ?_ | refine blk_alloc ?_ _)); exact BK122.out)) : gb155 ≠ gb122)); have n10_ := Aside0.mk ((by rw [hg]; exact Nat.ne_of_lt (blk_lt (g := gb145) (o := .cells #[.string t141, .int .i64 t142] 23 (0, 0)) (by (with_reducible repeat (first | refine blk_drewN ?_ _ | refine blk_drew ?_ | refine blk_alloc ?_ _)); exact BK145.out)) : gb145 ≠ gb155)); have n11_ := Aside0.mk ((by rw [hg]; exact Nat.ne_of_gt (blk_lt (g := gb145) (o := .cells #[.string t141, .int .i64 t142] 23 (0, 0)) (by (with_reducible repeat (first | refine blk_drewN ?_ _ | refine blk_drew ?_ | refine blk_alloc ?_ _)); exact BK145.out)) : gb155 ≠ gb145)); have n12_ := Aside0.mk ((by rw [hg]; exact Nat.ne_of_lt (blk_lt (g := gb150) (o := .cells #[.string t146, .int .i64 t147] 23 (0, 0)) (by (with_reducible repeat (first | refine blk_drewN ?_ _ | refine blk_drew ?_ | refine blk_alloc ?_ _)); exact BK150.out)) : gb150 ≠ gb155)); have n13_ := Aside0.mk ((by rw [hg]; exact Nat.ne_of_gt (blk_lt (g := gb150) (o := .cells #[.string t146, .int .i64 t147] 23 (0, 0)) (by (with_reducible repeat (first | refine blk_drewN ?_ _ | refine blk_drew ?_ | refine blk_alloc ?_ _)); exact BK150.out)) : gb155 ≠ gb150)); clear HO134; clear BK122; clear BK145; clear BK150; clear HB; have HO134 := n0_; have BK122 := n1_; have BK145 := n2_; have BK150 := n3_; have HB := n4_; have BK155 := n5_; have GW155 := n6_; have GE155 := n7_; have NB122_155 := n8_; have NB155_122 := n9_; have NB145_155 := n10_; have NB155_145 := n11_; have NB150_155 := n12_; have NB155_150 := n13_; clear n0_ n1_ n2_ n3_ n4_ n5_ n6_ n7_ n8_ n9_ n10_ n11_ n12_ n13_; clear hb hbox hg; have hnb44 := NB155_122.out; have hnc44 := NB122_155.out; have hnb45 := NB155_145.out; have hnc45 := NB145_155.out; have hnb46 := NB155_150.out; have hnc46 := NB150_155.out; have hcz47_0 : w43.cell? ⟨gb155, 0, none⟩ = some (.string (⟨#[]⟩ : ByteArray)) := (blk_cell BK155.out 0).trans rfl; have hcz47_1 : w43.cell? ⟨gb155, 1, none⟩ = some (.int .i64 0) := (blk_cell BK155.out 1).trans rfl; have hfz47_0 := blk_frozen BK155.out 0; have hfz47_1 := blk_frozen BK155.out 1; have hcz48_0 : w43.cell? ⟨gb122, 0, none⟩ = some (.string a0_0) := (blk_cell BK122.out 0).trans rfl; have hcz48_1 : w43.cell? ⟨gb122, 1, none⟩ = some (.int .i64 a0_1) := (blk_cell BK122.out 1).trans rfl; have hfz48_0 := blk_frozen BK122.out 0; have hfz48_1 := blk_frozen BK122.out 1) | ((with_reducible refine gate_callee (f := 14) rfl ?_); refine goesL_ (some 52) rfl rfl Tryz.func14 (by kernel_rfl) rfl #[.agg #[.string a0_0, .int .i64 a0_1], .agg #[.int .i64 3, .int .i64 (t139.size : Int), .string (⟨#[]⟩ : ByteArray), .bool false]] rfl (by (try simp only [List.map_toArray, List.map_cons, List.map_nil]); first | done | rfl | (simp only [List.length_drop, List.length_take]; rfl) | (simp only [Int.toNat_natCast, ByteArray.extract_zero_size]; rfl)) ?_; (with_reducible refine (laws_one7.calls a0_0 a0_1 3 (t139.size : Int) (⟨#[]⟩ : ByteArray) false t156 t157 t158 true _ A13.out).mono ?_); rintro e w49 ⟨rfl, hb⟩; refine ⟨_, rfl, ?_⟩; have n0_ := Aside0.mk (Kd.R_below (by (with_reducible repeat (first | apply Kd.R_alloc | apply Kd.R_drewN | apply Kd.R_drew)); exact (Kd.R_mono (Kd.R_far (p := ⟨gb155, 1, none⟩) (Kd.R_far (p := ⟨gb155, 0, none⟩) (Kd.R_types HO134.out BK155.out (by decide)) (fun _ hk => hk.2) (.string t151)) (fun _ hk => hk.2) (.int .i64 t152)) (fun _ h_ => h_.1))) hb); have n1_ := Aside0.mk (blk_below (g := gb122) (o := .cells #[.string a0_0, .int .i64 a0_1] 23 (0, 0)) (by (with_reducible repeat (first | refine blk_drewN ?_ _ | refine blk_drew ?_ | refine blk_alloc ?_ _)); refine blk_far ?_ NB122_155.out _; (with_reducible repeat (first | refine blk_drewN ?_ _ | refine blk_drew ?_ | refine blk_alloc ?_ _)); refine blk_far ?_ NB122_155.out _; (with_reducible repeat (first | refine blk_drewN ?_ _ | refine blk_drew ?_ | refine blk_alloc ?_ _)); exact BK122.out) hb); have n2_ := Aside0.mk (blk_below (g := gb145) (o := .cells #[.string t141, .int .i64 t142] 23 (0, 0)) (by (with_reducible repeat (first | refine blk_drewN ?_ _ | refine blk_drew ?_ | refine blk_alloc ?_ _)); refine blk_far ?_ NB145_155.out _; (with_reducible repeat (first | refine blk_drewN ?_ _ | refine blk_drew ?_ | refine blk_alloc ?_ _)); refine blk_far ?_ NB145_155.out _; (with_reducible repeat (first | refine blk_drewN ?_ _ | refine blk_drew ?_ | refine blk_alloc ?_ _)); exact BK145.out) hb); have n3_ := Aside0.mk (blk_below (g := gb150) (o := .cells #[.string t146, .int .i64 t147] 23 (0, 0)) (by (with_reducible repeat (first | refine blk_drewN ?_ _ | refine blk_drew ?_ | refine blk_alloc ?_ _)); refine blk_far ?_ NB150_155.out _; (with_reducible repeat (first | refine blk_drewN ?_ _ | refine blk_drew ?_ | refine blk_alloc ?_ _)); refine blk_far ?_ NB150_155.out _; (with_reducible repeat (first | refine blk_drewN ?_ _ | refine blk_drew ?_ | refine blk_alloc ?_ _)); exact BK150.out) hb); have n4_ := Aside0.mk (blk_below (g := gb155) (o := .cells #[.string t151, .int .i64 t152] 23 (0, 0)) (by (with_reducible repeat (first | refine blk_drewN ?_ _ | refine blk_drew ?_ | refine blk_alloc ?_ _)); refine blk_put (cs := #[.string t151, .int .i64 0]) ?_ 1 _ rfl; (with_reducible repeat (first | refine blk_drewN ?_ _ | refine blk_drew ?_ | refine blk_alloc ?_ _)); refine blk_put (cs := #[.string (⟨#[]⟩ : ByteArray), .int .i64 0]) ?_ 0 _ rfl; (with_reducible repeat (first | refine blk_drewN ?_ _ | refine blk_drew ?_ | refine blk_alloc ?_ _)); exact BK155.out) hb); have n5_ := Aside0.mk (below_step (by repeat (first | (with_reducible first | exact HB.out | apply below_alloc | apply pw_below_drewN | apply below_drew1 | refine below_set ?_ GE122.out | refine below_set ?_ GE145.out | refine below_set ?_ GE150.out | refine below_set ?_ GE155.out) | exact HB.out)) hb); clear HO134; clear BK122; clear BK145; clear BK150; clear BK155; clear HB; have HO134 := n0_; have BK122 := n1_; have BK145 := n2_; have BK150 := n3_; have BK155 := n4_; have HB := n5_; clear n0_ n1_ n2_ n3_ n4_ n5_; (try clear hb); (try clear hb2); (try clear hk); (try clear hi)) | ((with_reducible refine gate_dst (N := 13) rfl ?_); (try (refine gate_guard (by rfl) ?_; dsimp only)); refine box_event ?hg (N := 13) ?hd (cs := #[.string (⟨#[]⟩ : ByteArray), .int .i64 0]) (t := 23) ?hr ?_; (case hd => rfl); (case hg => rfl); (case hr => first | (go_simp; done) | (go_simp; rfl)); intro gb160 hg w50 hbox hb; have n0_ := Aside0.mk (Kd.R_below (by (with_reducible repeat (first | apply Kd.R_alloc | apply Kd.R_drewN | apply Kd.R_drew)); exact HO134.out) hb); have n1_ := Aside0.mk (blk_below (g := gb122) (o := .cells #[.string a0_0, .int .i64 a0_1] 23 (0, 0)) (by (with_reducible repeat (first | refine blk_drewN ?_ _ | refine blk_drew ?_ | refine blk_alloc ?_ _)); exact BK122.out) hb); have n2_ := Aside0.mk (blk_below (g := gb145) (o := .cells #[.string t141, .int .i64 t142] 23 (0, 0)) (by (with_reducible repeat (first | refine blk_drewN ?_ _ | refine blk_drew ?_ | refine blk_alloc ?_ _)); exact BK145.out) hb); have n3_ := Aside0.mk (blk_below (g := gb150) (o := .cells #[.string t146, .int .i64 t147] 23 (0, 0)) (by (with_reducible repeat (first | refine blk_drewN ?_ _ | refine blk_drew ?_ | refine blk_alloc ?_ _)); exact BK150.out) hb); have n4_ := Aside0.mk (blk_below (g := gb155) (o := .cells #[.string t151, .int .i64 t152] 23 (0, 0)) (by (with_reducible repeat (first | refine blk_drewN ?_ _ | refine blk_drew ?_ | refine blk_alloc ?_ _)); exact BK155.out) hb); have n5_ := Aside0.mk (below_step (by repeat (first | (with_reducible first | exact HB.out | apply below_alloc | apply pw_below_drewN | apply below_drew1 | refine below_set ?_ GE122.out | refine below_set ?_ GE145.out | refine below_set ?_ GE150.out | refine below_set ?_ GE155.out) | exact HB.out)) hb); have n6_ := Aside0.mk (hbox); have n7_ := Aside0.mk ((by rw [hg]; exact (below_size (by repeat (first | (with_reducible first | exact HB.out | apply below_alloc | apply pw_below_drewN | apply below_drew1 | refine below_set ?_ GE122.out | refine below_set ?_ GE145.out | refine below_set ?_ GE150.out | refine below_set ?_ GE155.out) | exact HB.out))) : w.heap.size ≤ gb160)); have n8_ := Aside0.mk ((by rw [hg]; exact (below_size (by repeat (first | (with_reducible first | exact HB.out | apply below_alloc | apply pw_below_drewN | apply below_drew1 | refine below_set ?_ GE122.out | refine below_set ?_ GE145.out | refine below_set ?_ GE150.out | refine below_set ?_ GE155.out) | exact HB.out))) : w.heap.size ≤ gb160)); have n9_ := Aside0.mk ((by rw [hg]; exact Nat.ne_of_lt (blk_lt (g := gb122) (o := .cells #[.string a0_0, .int .i64 a0_1] 23 (0, 0)) (by (with_reducible repeat (first | refine blk_drewN ?_ _ | refine blk_drew ?_ | refine blk_alloc ?_ _)); exact BK122.out)) : gb122 ≠ gb160)); have n10_ := Aside0.mk ((by rw [hg]; exact Nat.ne_of_gt (blk_lt (g := gb122) (o := .cells #[.string a0_0, .int .i64 a0_1] 23 (0, 0)) (by (with_reducible repeat (first | refine blk_drewN ?_ _ | refine blk_drew ?_ | refine blk_alloc ?_ _)); exact BK122.out)) : gb160 ≠ gb122)); have n11_ := Aside0.mk ((by rw [hg]; exact Nat.ne_of_lt (blk_lt (g := gb145) (o := .cells #[.string t141, .int .i64 t142] 23 (0, 0)) (by (with_reducible repeat (first | refine blk_drewN ?_ _ | refine blk_drew ?_ | refine blk_alloc ?_ _)); exact BK145.out)) : gb145 ≠ gb160)); have n12_ := Aside0.mk ((by rw [hg]; exact Nat.ne_of_gt (blk_lt (g := gb145) (o := .cells #[.string t141, .int .i64 t142] 23 (0, 0)) (by (with_reducible repeat (first | refine blk_drewN ?_ _ | refine blk_drew ?_ | refine blk_alloc ?_ _)); exact BK145.out)) : gb160 ≠ gb145)); have n13_ := Aside0.mk ((by rw [hg]; exact Nat.ne_of_lt (blk_lt (g := gb150) (o := .cells #[.string t146, .int .i64 t147] 23 (0, 0)) (by (with_reducible repeat (first | refine blk_drewN ?_ _ | refine blk_drew ?_ | refine blk_alloc ?_ _)); exact BK150.out)) : gb150 ≠ gb160)); have n14_ := Aside0.mk ((by rw [hg]; exact Nat.ne_of_gt (blk_lt (g := gb150) (o := .cells #[.string t146, .int .i64 t147] 23 (0, 0)) (by (with_reducible repeat (first | refine blk_drewN ?_ _ | refine blk_drew ?_ | refine blk_alloc ?_ _)); exact BK150.out)) : gb160 ≠ gb150)); have n15_ := Aside0.mk ((by rw [hg]; exact Nat.ne_of_lt (blk_lt (g := gb155) (o := .cells #[.string t151, .int .i64 t152] 23 (0, 0)) (by (with_reducible repeat (first | refine blk_drewN ?_ _ | refine blk_drew ?_ | refine blk_alloc ?_ _)); exact BK155.out)) : gb155 ≠ gb160)); have n16_ := Aside0.mk ((by rw [hg]; exact Nat.ne_of_gt (blk_lt (g := gb155) (o := .cells #[.string t151, .int .i64 t152] 23 (0, 0)) (by (with_reducible repeat (first | refine blk_drewN ?_ _ | refine blk_drew ?_ | refine blk_alloc ?_ _)); exact BK155.out)) : gb160 ≠ gb155)); clear HO134; clear BK122; clear BK145; clear BK150; clear BK155; clear HB; have HO134 := n0_; have BK122 := n1_; have BK145 := n2_; have BK150 := n3_; have BK155 := n4_; have HB := n5_; have BK160 := n6_; have GW160 := n7_; have GE160 := n8_; have NB122_160 := n9_; have NB160_122 := n10_; have NB145_160 := n11_; have NB160_145 := n12_; have NB150_160 := n13_; have NB160_150 := n14_; have NB155_160 := n15_; have NB160_155 := n16_; clear n0_ n1_ n2_ n3_ n4_ n5_ n6_ n7_ n8_ n9_ n10_ n11_ n12_ n13_ n14_ n15_ n16_; clear hb hbox hg; have hnb51 := NB160_122.out; have hnc51 := NB122_160.out; have hnb52 := NB160_145.out; have hnc52 := NB145_160.out; have hnb53 := NB160_150.out; have hnc53 := NB150_160.out; have hnb54 := NB160_155.out; have hnc54 := NB155_160.out; have hcz55_0 : w50.cell? ⟨gb160, 0, none⟩ = some (.string (⟨#[]⟩ : ByteArray)) := (blk_cell BK160.out 0).trans rfl; have hcz55_1 : w50.cell? ⟨gb160, 1, none⟩ = some (.int .i64 0) := (blk_cell BK160.out 1).trans rfl; have hfz55_0 := blk_frozen BK160.out 0; have hfz55_1 := blk_frozen BK160.out 1))
            have n0_ : Aside0 (Kd.R Kd.string 9 ((w50.setCell ⟨gb160, 0, none⟩ (.string t156)).setCell ⟨gb160, 1, none⟩ (.int .i64 t157)) w.heap.size (fun _ => True) v133 t132) := ⟨by (with_reducible repeat (first | apply Kd.R_alloc | apply Kd.R_drewN | apply Kd.R_drew)); exact Kd.R_mono (Kd.R_far (p := ⟨gb160, 1, none⟩) (Kd.R_far (p := ⟨gb160, 0, none⟩) (Kd.R_types HO134.out BK160.out (by decide)) (fun _ hk => hk.2) (.string t156)) (fun _ hk => hk.2) (.int .i64 t157)) (fun _ hk => trivial)⟩
            have n1_ : Aside0 (((w50.setCell ⟨gb160, 0, none⟩ (.string t156)).setCell ⟨gb160, 1, none⟩ (.int .i64 t157)).heap[gb122]? = some (.cells #[.string a0_0, .int .i64 a0_1] 23 (0, 0))) := ⟨by (with_reducible repeat (first | refine blk_drewN ?_ _ | refine blk_drew ?_ | refine blk_alloc ?_ _)); refine blk_far ?_ NB122_160.out _; (with_reducible repeat (first | refine blk_drewN ?_ _ | refine blk_drew ?_ | refine blk_alloc ?_ _)); refine blk_far ?_ NB122_160.out _; (with_reducible repeat (first | refine blk_drewN ?_ _ | refine blk_drew ?_ | refine blk_alloc ?_ _)); exact BK122.out⟩
            have n2_ : Aside0 (((w50.setCell ⟨gb160, 0, none⟩ (.string t156)).setCell ⟨gb160, 1, none⟩ (.int .i64 t157)).heap[gb145]? = some (.cells #[.string t141, .int .i64 t142] 23 (0, 0))) := ⟨by (with_reducible repeat (first | refine blk_drewN ?_ _ | refine blk_drew ?_ | refine blk_alloc ?_ _)); refine blk_far ?_ NB145_160.out _; (with_reducible repeat (first | refine blk_drewN ?_ _ | refine blk_drew ?_ | refine blk_alloc ?_ _)); refine blk_far ?_ NB145_160.out _; (with_reducible repeat (first | refine blk_drewN ?_ _ | refine blk_drew ?_ | refine blk_alloc ?_ _)); exact BK145.out⟩
            have n3_ : Aside0 (((w50.setCell ⟨gb160, 0, none⟩ (.string t156)).setCell ⟨gb160, 1, none⟩ (.int .i64 t157)).heap[gb150]? = some (.cells #[.string t146, .int .i64 t147] 23 (0, 0))) := ⟨by (with_reducible repeat (first | refine blk_drewN ?_ _ | refine blk_drew ?_ | refine blk_alloc ?_ _)); refine blk_far ?_ NB150_160.out _; (with_reducible repeat (first | refine blk_drewN ?_ _ | refine blk_drew ?_ | refine blk_alloc ?_ _)); refine blk_far ?_ NB150_160.out _; (with_reducible repeat (first | refine blk_drewN ?_ _ | refine blk_drew ?_ | refine blk_alloc ?_ _)); exact BK150.out⟩
            have n4_ : Aside0 (((w50.setCell ⟨gb160, 0, none⟩ (.string t156)).setCell ⟨gb160, 1, none⟩ (.int .i64 t157)).heap[gb155]? = some (.cells #[.string t151, .int .i64 t152] 23 (0, 0))) := ⟨by (with_reducible repeat (first | refine blk_drewN ?_ _ | refine blk_drew ?_ | refine blk_alloc ?_ _)); refine blk_far ?_ NB155_160.out _; (with_reducible repeat (first | refine blk_drewN ?_ _ | refine blk_drew ?_ | refine blk_alloc ?_ _)); refine blk_far ?_ NB155_160.out _; (with_reducible repeat (first | refine blk_drewN ?_ _ | refine blk_drew ?_ | refine blk_alloc ?_ _)); exact BK155.out⟩
            have n5_ : Aside0 (((w50.setCell ⟨gb160, 0, none⟩ (.string t156)).setCell ⟨gb160, 1, none⟩ (.int .i64 t157)).heap[gb160]? = some (.cells #[.string t156, .int .i64 t157] 23 (0, 0))) := ⟨by (with_reducible repeat (first | refine blk_drewN ?_ _ | refine blk_drew ?_ | refine blk_alloc ?_ _)); refine blk_put (cs := #[.string t156, .int .i64 0]) ?_ 1 _ rfl; (with_reducible repeat (first | refine blk_drewN ?_ _ | refine blk_drew ?_ | refine blk_alloc ?_ _)); refine blk_put (cs := #[.string (⟨#[]⟩ : ByteArray), .int .i64 0]) ?_ 0 _ rfl; (with_reducible repeat (first | refine blk_drewN ?_ _ | refine blk_drew ?_ | refine blk_alloc ?_ _)); exact BK160.out⟩
            have n6_ : Aside0 (Below w.heap.size w ((w50.setCell ⟨gb160, 0, none⟩ (.string t156)).setCell ⟨gb160, 1, none⟩ (.int .i64 t157))) := ⟨by repeat (first | (with_reducible first | exact HB.out | apply below_alloc | apply pw_below_drewN | apply below_drew1 | refine below_set ?_ GE122.out | refine below_set ?_ GE145.out | refine below_set ?_ GE150.out | refine below_set ?_ GE155.out | refine below_set ?_ GE160.out) | exact HB.out)⟩
            (try clear HO134); (try clear BK122); (try clear BK145); (try clear BK150); (try clear BK155); (try clear BK160); (try clear HB)
            generalize ((w50.setCell ⟨gb160, 0, none⟩ (.string t156)).setCell ⟨gb160, 1, none⟩ (.int .i64 t157)) = w56 at n0_ n1_ n2_ n3_ n4_ n5_ n6_ ⊢
            have HO134 := n0_; have BK122 := n1_; have BK145 := n2_; have BK150 := n3_; have BK155 := n4_; have BK160 := n5_; have HB := n6_; clear n0_ n1_ n2_ n3_ n4_ n5_ n6_; have n0_ := Aside0.mk (Kd.R_drew HO134.out); have n1_ := Aside0.mk (blk_drew BK122.out); have n2_ := Aside0.mk (blk_drew BK145.out); have n3_ := Aside0.mk (blk_drew BK150.out); have n4_ := Aside0.mk (blk_drew BK155.out); have n5_ := Aside0.mk (blk_drew BK160.out); have n6_ := Aside0.mk (below_drew1 HB.out); clear HO134; clear BK122; clear BK145; clear BK150; clear BK155; clear BK160; clear HB; have HO134 := n0_; have BK122 := n1_; have BK145 := n2_; have BK150 := n3_; have BK155 := n4_; have BK160 := n5_; have HB := n6_; clear n0_ n1_ n2_ n3_ n4_ n5_ n6_
            refine start_ (n := 44) (S := fun w' => w'.cell? ⟨gb145, 0, none⟩ = some (.string t141) ∧ w'.cell? ⟨gb145, 1, none⟩ = some (.int .i64 t142) ∧ w'.cell? ⟨gb150, 0, none⟩ = some (.string t146) ∧ w'.cell? ⟨gb150, 1, none⟩ = some (.int .i64 t147) ∧ w'.cell? ⟨gb155, 0, none⟩ = some (.string t151) ∧ w'.cell? ⟨gb155, 1, none⟩ = some (.int .i64 t152) ∧ w'.cell? ⟨gb160, 0, none⟩ = some (.string t156) ∧ w'.cell? ⟨gb160, 1, none⟩ = some (.int .i64 t157) ∧ w'.cell? ⟨gb122, 0, none⟩ = some (.string a0_0) ∧ w'.cell? ⟨gb122, 1, none⟩ = some (.int .i64 a0_1)) (ds := []) #[false, false, false, false, false, false, false, false, false, false, false, false, false, false, false, false, false, false, false, false, false, false, false, false, false, false, false, false, false, false, false, false, false, false, false, false, false, false, false, false, false, false, false, false] (by kernel_rfl) rfl rfl ⟨(blk_cell BK145.out 0).trans rfl, (blk_cell BK145.out 1).trans rfl, (blk_cell BK150.out 0).trans rfl, (blk_cell BK150.out 1).trans rfl, (blk_cell BK155.out 0).trans rfl, (blk_cell BK155.out 1).trans rfl, (blk_cell BK160.out 0).trans rfl, (blk_cell BK160.out 1).trans rfl, (blk_cell BK122.out 0).trans rfl, (blk_cell BK122.out 1).trans rfl⟩ (fun hHeld => ?_); refine with_tabW laws_FnWordOut.tab10 laws_FnWordOut.bits10 (fun HT_ HW_ => ?_)
            generalize w56.drew = w57 at HO134 BK122 BK145 BK150 BK155 BK160 HB hHeld ⊢
            refine pure_ (i := 0) (N := some 56) (v := ?_) (a' := ?_) #[true, false, false, false, false, false, false, false, false, false, false, false, false, false, false, false, false, false, false, false, false, false, false, false, false, false, false, false, false, false, false, false, false, false, false, false, false, false, false, false, false, false, false, false] rfl rfl (any_of HT_.out (by kernel_rfl)) (fun _ _ _ h => h) (Or.inl ⟨by rfl, ?_⟩) ?_ ?_
            rotate_left
            ·intro w'
             go_simp
             with_reducible rfl
            rotate_left
            ·simp only [Act.put, List.setIfInBounds_toArray, List.set_cons_zero, List.set_cons_succ, i64_w, i32_w]
             rfl
            refine pure_ (i := 1) (N := some 57) (v := ?_) (a' := ?_) #[true, true, false, false, false, false, false, false, false, false, false, false, false, false, false, false, false, false, false, false, false, false, false, false, false, false, false, false, false, false, false, false, false, false, false, false, false, false, false, false, false, false, false, false] rfl rfl (any_of HT_.out (by kernel_rfl)) (fun _ _ _ h => h) (Or.inl ⟨by rfl, ?_⟩) ?_ ?_
            rotate_left
            ·intro w'
             go_simp
             with_reducible rfl
            rotate_left
            ·simp only [Act.put, List.setIfInBounds_toArray, List.set_cons_zero, List.set_cons_succ, i64_w, i32_w]
             rfl
            refine pure_ (i := 2) (N := some 58) (v := ?_) (a' := ?_) #[true, true, true, false, false, false, false, false, false, false, false, false, false, false, false, false, false, false, false, false, false, false, false, false, false, false, false, false, false, false, false, false, false, false, false, false, false, false, false, false, false, false, false, false] rfl rfl (any_of HT_.out (by kernel_rfl)) (fun _ _ _ h => h) (Or.inl ⟨by rfl, ?_⟩) ?_ ?_
            rotate_left
            ·intro w'
             go_simp
             with_reducible rfl
            rotate_left
            ·simp only [Act.put, List.setIfInBounds_toArray, List.set_cons_zero, List.set_cons_succ, i64_w, i32_w]
             rfl
            refine pure_ (i := 3) (N := some 59) (v := ?_) (a' := ?_) #[true, true, true, true, false, false, false, false, false, false, false, false, false, false, false, false, false, false, false, false, false, false, false, false, false, false, false, false, false, false, false, false, false, false, false, false, false, false, false, false, false, false, false, false] rfl rfl (any_of HT_.out (by kernel_rfl)) (fun _ _ _ h => h) (Or.inl ⟨by rfl, ?_⟩) ?_ ?_
            rotate_left
            ·intro w'
             go_simp
             with_reducible rfl
            rotate_left
            ·simp only [Act.put, List.setIfInBounds_toArray, List.set_cons_zero, List.set_cons_succ, i64_w, i32_w]
             rfl
            refine pure_ (i := 4) (N := some 60) (v := ?_) (a' := ?_) #[true, true, true, true, true, false, false, false, false, false, false, false, false, false, false, false, false, false, false, false, false, false, false, false, false, false, false, false, false, false, false, false, false, false, false, false, false, false, false, false, false, false, false, false] rfl rfl (any_of HT_.out (by kernel_rfl)) (fun _ _ _ h => h) (Or.inl ⟨by rfl, ?_⟩) ?_ ?_
            rotate_left
            ·intro w'
             go_simp
             with_reducible rfl
            rotate_left
            ·simp only [Act.put, List.setIfInBounds_toArray, List.set_cons_zero, List.set_cons_succ, i64_w, i32_w]
             rfl
            refine pure_ (i := 5) (N := some 61) (v := ?_) (a' := ?_) #[true, true, true, true, true, true, false, false, false, false, false, false, false, false, false, false, false, false, false, false, false, false, false, false, false, false, false, false, false, false, false, false, false, false, false, false, false, false, false, false, false, false, false, false] rfl rfl (any_of HT_.out (by kernel_rfl)) (fun _ _ _ h => h) (Or.inl ⟨by rfl, ?_⟩) ?_ ?_
            rotate_left
            ·intro w'
             go_simp
             with_reducible rfl
            rotate_left
            ·simp only [Act.put, List.setIfInBounds_toArray, List.set_cons_zero, List.set_cons_succ, i64_w, i32_w]
             rfl
            refine pure_ (i := 6) (N := some 62) (v := ?_) (a' := ?_) #[true, true, true, true, true, true, true, false, false, false, false, false, false, false, false, false, false, false, false, false, false, false, false, false, false, false, false, false, false, false, false, false, false, false, false, false, false, false, false, false, false, false, false, false] rfl rfl (any_of HT_.out (by kernel_rfl)) (fun _ _ _ h => h) (Or.inl ⟨by rfl, ?_⟩) ?_ ?_
            rotate_left
            ·intro w'
             go_simp
             with_reducible rfl
            rotate_left
            ·simp only [Act.put, List.setIfInBounds_toArray, List.set_cons_zero, List.set_cons_succ, i64_w, i32_w]
             rfl
            refine pure_ (i := 7) (N := some 63) (v := ?_) (a' := ?_) #[true, true, true, true, true, true, true, true, false, false, false, false, false, false, false, false, false, false, false, false, false, false, false, false, false, false, false, false, false, false, false, false, false, false, false, false, false, false, false, false, false, false, false, false] rfl rfl (any_of HT_.out (by kernel_rfl)) (fun _ _ _ h => h) (Or.inl ⟨by rfl, ?_⟩) ?_ ?_
            rotate_left
            ·intro w'
             go_simp
             with_reducible rfl
            rotate_left
            ·simp only [Act.put, List.setIfInBounds_toArray, List.set_cons_zero, List.set_cons_succ, i64_w, i32_w]
             rfl
            refine pure_ (i := 8) (N := some 64) (v := ?_) (a' := ?_) #[true, true, true, true, true, true, true, true, true, false, false, false, false, false, false, false, false, false, false, false, false, false, false, false, false, false, false, false, false, false, false, false, false, false, false, false, false, false, false, false, false, false, false, false] rfl rfl (any_of HT_.out (by kernel_rfl)) (fun _ _ _ h => h) (Or.inl ⟨by rfl, ?_⟩) ?_ ?_
            rotate_left
            ·intro w'
             go_simp
             with_reducible rfl
            rotate_left
            ·simp only [Act.put, List.setIfInBounds_toArray, List.set_cons_zero, List.set_cons_succ, i64_w, i32_w]
             rfl
            refine pure_ (i := 9) (N := some 65) (v := ?_) (a' := ?_) #[true, true, true, true, true, true, true, true, true, true, false, false, false, false, false, false, false, false, false, false, false, false, false, false, false, false, false, false, false, false, false, false, false, false, false, false, false, false, false, false, false, false, false, false] rfl rfl (any_of HT_.out (by kernel_rfl)) (fun _ _ _ h => h) (Or.inl ⟨by rfl, ?_⟩) ?_ ?_
            rotate_left
            ·intro w'
             go_simp
             with_reducible rfl
            rotate_left
            ·simp only [Act.put, List.setIfInBounds_toArray, List.set_cons_zero, List.set_cons_succ, i64_w, i32_w]
             rfl
            refine pure_ (i := 10) (N := some 66) (v := ?_) (a' := ?_) #[true, true, true, true, true, true, true, true, true, true, true, false, false, false, false, false, false, false, false, false, false, false, false, false, false, false, false, false, false, false, false, false, false, false, false, false, false, false, false, false, false, false, false, false] rfl rfl (any_of HT_.out (by kernel_rfl)) (fun _ _ _ h => h) (Or.inl ⟨by rfl, ?_⟩) ?_ ?_
            rotate_left
            ·intro w'
             go_simp
             with_reducible rfl
            rotate_left
            ·simp only [Act.put, List.setIfInBounds_toArray, List.set_cons_zero, List.set_cons_succ, i64_w, i32_w]
             rfl
            refine take_ (i := 11) (N := some 67) (v := ?_) (a' := ?_) #[true, true, true, true, true, true, true, true, true, true, true, true, false, false, false, false, false, false, false, false, false, false, false, false, false, false, false, false, false, false, false, false, false, false, false, false, false, false, false, false, false, false, false, false] rfl rfl (take_ofW HT_.out HW_.out (by kernel_rfl)) (fun _ _ _ h => h) (Or.inl ⟨by rfl, ?_⟩) hHeld ?_ ?_
            rotate_left
            ·rintro w' ⟨s0, s1, s2, s3, s4, s5, s6, s7, s8, s9⟩
             go_simp
             with_reducible rfl
            rotate_left
            ·simp only [Act.put, List.setIfInBounds_toArray, List.set_cons_zero, List.set_cons_succ, i64_w, i32_w]
             rfl
            refine take_ (i := 12) (N := some 68) (v := ?_) (a' := ?_) #[true, true, true, true, true, true, true, true, true, true, true, true, true, false, false, false, false, false, false, false, false, false, false, false, false, false, false, false, false, false, false, false, false, false, false, false, false, false, false, false, false, false, false, false] rfl rfl (take_ofW HT_.out HW_.out (by kernel_rfl)) (fun _ _ _ h => h) (Or.inl ⟨by rfl, ?_⟩) hHeld ?_ ?_
            rotate_left
            ·rintro w' ⟨s0, s1, s2, s3, s4, s5, s6, s7, s8, s9⟩
             go_simp
             with_reducible rfl
            rotate_left
            ·simp only [Act.put, List.setIfInBounds_toArray, List.set_cons_zero, List.set_cons_succ, i64_w, i32_w]
             rfl
            refine pure_ (i := 13) (N := some 69) (v := ?_) (a' := ?_) #[true, true, true, true, true, true, true, true, true, true, true, true, true, true, false, false, false, false, false, false, false, false, false, false, false, false, false, false, false, false, false, false, false, false, false, false, false, false, false, false, false, false, false, false] rfl rfl (any_of HT_.out (by kernel_rfl)) (fun _ _ _ h => h) (Or.inl ⟨by rfl, ?_⟩) ?_ ?_
            rotate_left
            ·intro w'
             go_simp
             with_reducible rfl
            rotate_left
            ·simp only [Act.put, List.setIfInBounds_toArray, List.set_cons_zero, List.set_cons_succ, i64_w, i32_w]
             rfl
            refine pure_ (i := 14) (N := some 70) (v := ?_) (a' := ?_) #[true, true, true, true, true, true, true, true, true, true, true, true, true, true, true, false, false, false, false, false, false, false, false, false, false, false, false, false, false, false, false, false, false, false, false, false, false, false, false, false, false, false, false, false] rfl rfl (any_of HT_.out (by kernel_rfl)) (fun _ _ _ h => h) (Or.inl ⟨by rfl, ?_⟩) ?_ ?_
            rotate_left
            ·intro w'
             go_simp
             with_reducible rfl
            rotate_left
            ·simp only [Act.put, List.setIfInBounds_toArray, List.set_cons_zero, List.set_cons_succ, i64_w, i32_w]
             rfl
            refine pure_ (i := 15) (N := some 71) (v := ?_) (a' := ?_) #[true, true, true, true, true, true, true, true, true, true, true, true, true, true, true, true, false, false, false, false, false, false, false, false, false, false, false, false, false, false, false, false, false, false, false, false, false, false, false, false, false, false, false, false] rfl rfl (any_of HT_.out (by kernel_rfl)) (fun _ _ _ h => h) (Or.inl ⟨by rfl, ?_⟩) ?_ ?_
            rotate_left
            ·intro w'
             go_simp
             with_reducible rfl
            rotate_left
            ·simp only [Act.put, List.setIfInBounds_toArray, List.set_cons_zero, List.set_cons_succ, i64_w, i32_w]
             rfl
            refine take_ (i := 16) (N := some 72) (v := ?_) (a' := ?_) #[true, true, true, true, true, true, true, true, true, true, true, true, true, true, true, true, true, false, false, false, false, false, false, false, false, false, false, false, false, false, false, false, false, false, false, false, false, false, false, false, false, false, false, false] rfl rfl (take_ofW HT_.out HW_.out (by kernel_rfl)) (fun _ _ _ h => h) (Or.inl ⟨by rfl, ?_⟩) hHeld ?_ ?_
            rotate_left
            ·rintro w' ⟨s0, s1, s2, s3, s4, s5, s6, s7, s8, s9⟩
             go_simp
             with_reducible rfl
            rotate_left
            ·simp only [Act.put, List.setIfInBounds_toArray, List.set_cons_zero, List.set_cons_succ, i64_w, i32_w]
             rfl
            refine take_ (i := 17) (N := some 73) (v := ?_) (a' := ?_) #[true, true, true, true, true, true, true, true, true, true, true, true, true, true, true, true, true, true, false, false, false, false, false, false, false, false, false, false, false, false, false, false, false, false, false, false, false, false, false, false, false, false, false, false] rfl rfl (take_ofW HT_.out HW_.out (by kernel_rfl)) (fun _ _ _ h => h) (Or.inl ⟨by rfl, ?_⟩) hHeld ?_ ?_
            rotate_left
            ·rintro w' ⟨s0, s1, s2, s3, s4, s5, s6, s7, s8, s9⟩
             go_simp
             with_reducible rfl
            rotate_left
            ·simp only [Act.put, List.setIfInBounds_toArray, List.set_cons_zero, List.set_cons_succ, i64_w, i32_w]
             rfl
            refine pure_ (i := 18) (N := some 74) (v := ?_) (a' := ?_) #[true, true, true, true, true, true, true, true, true, true, true, true, true, true, true, true, true, true, true, false, false, false, false, false, false, false, false, false, false, false, false, false, false, false, false, false, false, false, false, false, false, false, false, false] rfl rfl (any_of HT_.out (by kernel_rfl)) (fun _ _ _ h => h) (Or.inl ⟨by rfl, ?_⟩) ?_ ?_
            rotate_left
            ·intro w'
             go_simp
             with_reducible rfl
            rotate_left
            ·simp only [Act.put, List.setIfInBounds_toArray, List.set_cons_zero, List.set_cons_succ, i64_w, i32_w]
             rfl
            refine pure_ (i := 19) (N := some 75) (v := ?_) (a' := ?_) #[true, true, true, true, true, true, true, true, true, true, true, true, true, true, true, true, true, true, true, true, false, false, false, false, false, false, false, false, false, false, false, false, false, false, false, false, false, false, false, false, false, false, false, false] rfl rfl (any_of HT_.out (by kernel_rfl)) (fun _ _ _ h => h) (Or.inl ⟨by rfl, ?_⟩) ?_ ?_
            rotate_left
            ·intro w'
             go_simp
             with_reducible rfl
            rotate_left
            ·simp only [Act.put, List.setIfInBounds_toArray, List.set_cons_zero, List.set_cons_succ, i64_w, i32_w]
             rfl
            refine pure_ (i := 20) (N := some 76) (v := ?_) (a' := ?_) #[true, true, true, true, true, true, true, true, true, true, true, true, true, true, true, true, true, true, true, true, true, false, false, false, false, false, false, false, false, false, false, false, false, false, false, false, false, false, false, false, false, false, false, false] rfl rfl (any_of HT_.out (by kernel_rfl)) (fun _ _ _ h => h) (Or.inl ⟨by rfl, ?_⟩) ?_ ?_
            rotate_left
            ·intro w'
             go_simp
             with_reducible rfl
            rotate_left
            ·simp only [Act.put, List.setIfInBounds_toArray, List.set_cons_zero, List.set_cons_succ, i64_w, i32_w]
             rfl
            refine pure_ (i := 21) (N := some 77) (v := ?_) (a' := ?_) #[true, true, true, true, true, true, true, true, true, true, true, true, true, true, true, true, true, true, true, true, true, true, false, false, false, false, false, false, false, false, false, false, false, false, false, false, false, false, false, false, false, false, false, false] rfl rfl (any_of HT_.out (by kernel_rfl)) (fun _ _ _ h => h) (Or.inl ⟨by rfl, ?_⟩) ?_ ?_
            rotate_left
            ·intro w'
             go_simp
             with_reducible rfl
            rotate_left
            ·simp only [Act.put, List.setIfInBounds_toArray, List.set_cons_zero, List.set_cons_succ, i64_w, i32_w]
             rfl
            refine pure_ (i := 22) (N := some 78) (v := ?_) (a' := ?_) #[true, true, true, true, true, true, true, true, true, true, true, true, true, true, true, true, true, true, true, true, true, true, true, false, false, false, false, false, false, false, false, false, false, false, false, false, false, false, false, false, false, false, false, false] rfl rfl (any_of HT_.out (by kernel_rfl)) (fun _ _ _ h => h) (Or.inl ⟨by rfl, ?_⟩) ?_ ?_
            rotate_left
            ·intro w'
             go_simp
             with_reducible rfl
            rotate_left
            ·simp only [Act.put, List.setIfInBounds_toArray, List.set_cons_zero, List.set_cons_succ, i64_w, i32_w]
             rfl
            refine pure_ (i := 23) (N := some 79) (v := ?_) (a' := ?_) #[true, true, true, true, true, true, true, true, true, true, true, true, true, true, true, true, true, true, true, true, true, true, true, true, false, false, false, false, false, false, false, false, false, false, false, false, false, false, false, false, false, false, false, false] rfl rfl (any_of HT_.out (by kernel_rfl)) (fun _ _ _ h => h) (Or.inl ⟨by rfl, ?_⟩) ?_ ?_
            rotate_left
            ·intro w'
             go_simp
             with_reducible rfl
            rotate_left
            ·simp only [Act.put, List.setIfInBounds_toArray, List.set_cons_zero, List.set_cons_succ, i64_w, i32_w]
             rfl
            refine pure_ (i := 24) (N := some 80) (v := ?_) (a' := ?_) #[true, true, true, true, true, true, true, true, true, true, true, true, true, true, true, true, true, true, true, true, true, true, true, true, true, false, false, false, false, false, false, false, false, false, false, false, false, false, false, false, false, false, false, false] rfl rfl (any_of HT_.out (by kernel_rfl)) (fun _ _ _ h => h) (Or.inl ⟨by rfl, ?_⟩) ?_ ?_
            rotate_left
            ·intro w'
             go_simp
             with_reducible rfl
            rotate_left
            ·simp only [Act.put, List.setIfInBounds_toArray, List.set_cons_zero, List.set_cons_succ, i64_w, i32_w]
             rfl
            refine pure_ (i := 25) (N := some 81) (v := ?_) (a' := ?_) #[true, true, true, true, true, true, true, true, true, true, true, true, true, true, true, true, true, true, true, true, true, true, true, true, true, true, false, false, false, false, false, false, false, false, false, false, false, false, false, false, false, false, false, false] rfl rfl (any_of HT_.out (by kernel_rfl)) (fun _ _ _ h => h) (Or.inl ⟨by rfl, ?_⟩) ?_ ?_
            rotate_left
            ·intro w'
             go_simp
             with_reducible rfl
            rotate_left
            ·simp only [Act.put, List.setIfInBounds_toArray, List.set_cons_zero, List.set_cons_succ, i64_w, i32_w]
             rfl
            refine pure_ (i := 26) (N := some 82) (v := ?_) (a' := ?_) #[true, true, true, true, true, true, true, true, true, true, true, true, true, true, true, true, true, true, true, true, true, true, true, true, true, true, true, false, false, false, false, false, false, false, false, false, false, false, false, false, false, false, false, false] rfl rfl (any_of HT_.out (by kernel_rfl)) (fun _ _ _ h => h) (Or.inl ⟨by rfl, ?_⟩) ?_ ?_
            rotate_left
            ·intro w'
             go_simp
             with_reducible rfl
            rotate_left
            ·simp only [Act.put, List.setIfInBounds_toArray, List.set_cons_zero, List.set_cons_succ, i64_w, i32_w]
             rfl
            refine pure_ (i := 27) (N := some 83) (v := ?_) (a' := ?_) #[true, true, true, true, true, true, true, true, true, true, true, true, true, true, true, true, true, true, true, true, true, true, true, true, true, true, true, true, false, false, false, false, false, false, false, false, false, false, false, false, false, false, false, false] rfl rfl (any_of HT_.out (by kernel_rfl)) (fun _ _ _ h => h) (Or.inl ⟨by rfl, ?_⟩) ?_ ?_
            rotate_left
            ·intro w'
             go_simp
             with_reducible rfl
            rotate_left
            ·simp only [Act.put, List.setIfInBounds_toArray, List.set_cons_zero, List.set_cons_succ, i64_w, i32_w]
             rfl
            refine pure_ (i := 28) (N := some 84) (v := ?_) (a' := ?_) #[true, true, true, true, true, true, true, true, true, true, true, true, true, true, true, true, true, true, true, true, true, true, true, true, true, true, true, true, true, false, false, false, false, false, false, false, false, false, false, false, false, false, false, false] rfl rfl (any_of HT_.out (by kernel_rfl)) (fun _ _ _ h => h) (Or.inl ⟨by rfl, ?_⟩) ?_ ?_
            rotate_left
            ·intro w'
             go_simp
             with_reducible rfl
            rotate_left
            ·simp only [Act.put, List.setIfInBounds_toArray, List.set_cons_zero, List.set_cons_succ, i64_w, i32_w]
             rfl
            refine pure_ (i := 30) (N := some 86) (v := ?_) (a' := ?_) #[true, true, true, true, true, true, true, true, true, true, true, true, true, true, true, true, true, true, true, true, true, true, true, true, true, true, true, true, true, false, true, false, false, false, false, false, false, false, false, false, false, false, false, false] rfl rfl (any_of HT_.out (by kernel_rfl)) (fun _ _ _ h => h) (Or.inl ⟨by rfl, ?_⟩) ?_ ?_
            rotate_left
            ·intro w'
             go_simp
             with_reducible rfl
            rotate_left
            ·simp only [Act.put, List.setIfInBounds_toArray, List.set_cons_zero, List.set_cons_succ, i64_w, i32_w]
             rfl
            refine pure_ (i := 34) (N := some 90) (v := ?_) (a' := ?_) #[true, true, true, true, true, true, true, true, true, true, true, true, true, true, true, true, true, true, true, true, true, true, true, true, true, true, true, true, true, false, true, false, false, false, true, false, false, false, false, false, false, false, false, false] rfl rfl (any_of HT_.out (by kernel_rfl)) (fun _ _ _ h => h) (Or.inl ⟨by rfl, ?_⟩) ?_ ?_
            rotate_left
            ·intro w'
             go_simp
             with_reducible rfl
            rotate_left
            ·simp only [Act.put, List.setIfInBounds_toArray, List.set_cons_zero, List.set_cons_succ, i64_w, i32_w]
             rfl
            refine pure_ (i := 36) (N := some 92) (v := ?_) (a' := ?_) #[true, true, true, true, true, true, true, true, true, true, true, true, true, true, true, true, true, true, true, true, true, true, true, true, true, true, true, true, true, false, true, false, false, false, true, false, true, false, false, false, false, false, false, false] rfl rfl (any_of HT_.out (by kernel_rfl)) (fun _ _ _ h => h) (Or.inl ⟨by rfl, ?_⟩) ?_ ?_
            rotate_left
            ·intro w'
             go_simp
             with_reducible rfl
            rotate_left
            ·simp only [Act.put, List.setIfInBounds_toArray, List.set_cons_zero, List.set_cons_succ, i64_w, i32_w]
             rfl
            refine take_ (i := 29) (N := some 85) (v := ?_) (a' := ?_) #[true, true, true, true, true, true, true, true, true, true, true, true, true, true, true, true, true, true, true, true, true, true, true, true, true, true, true, true, true, true, true, false, false, false, true, false, true, false, false, false, false, false, false, false] rfl rfl (take_ofW HT_.out HW_.out (by kernel_rfl)) (fun _ _ _ h => h) (Or.inl ⟨by rfl, ?_⟩) hHeld ?_ ?_
            rotate_left
            ·rintro w' ⟨s0, s1, s2, s3, s4, s5, s6, s7, s8, s9⟩
             go_simp
             with_reducible rfl
            rotate_left
            ·simp only [Act.put, List.setIfInBounds_toArray, List.set_cons_zero, List.set_cons_succ, i64_w, i32_w]
             rfl
            refine take_ (i := 31) (N := some 87) (v := ?_) (a' := ?_) #[true, true, true, true, true, true, true, true, true, true, true, true, true, true, true, true, true, true, true, true, true, true, true, true, true, true, true, true, true, true, true, true, false, false, true, false, true, false, false, false, false, false, false, false] rfl rfl (take_ofW HT_.out HW_.out (by kernel_rfl)) (fun _ _ _ h => h) (Or.inl ⟨by rfl, ?_⟩) hHeld ?_ ?_
            rotate_left
            ·rintro w' ⟨s0, s1, s2, s3, s4, s5, s6, s7, s8, s9⟩
             go_simp
             with_reducible rfl
            rotate_left
            ·simp only [Act.put, List.setIfInBounds_toArray, List.set_cons_zero, List.set_cons_succ, i64_w, i32_w]
             rfl
            refine pure_ (i := 32) (N := some 88) (v := ?_) (a' := ?_) #[true, true, true, true, true, true, true, true, true, true, true, true, true, true, true, true, true, true, true, true, true, true, true, true, true, true, true, true, true, true, true, true, true, false, true, false, true, false, false, false, false, false, false, false] rfl rfl (any_of HT_.out (by kernel_rfl)) (fun _ _ _ h => h) (Or.inl ⟨by rfl, ?_⟩) ?_ ?_
            rotate_left
            ·intro w'
             go_simp
             with_reducible rfl
            rotate_left
            ·simp only [Act.put, List.setIfInBounds_toArray, List.set_cons_zero, List.set_cons_succ, i64_w, i32_w]
             rfl
            refine pure_ (i := 33) (N := some 89) (v := ?_) (a' := ?_) #[true, true, true, true, true, true, true, true, true, true, true, true, true, true, true, true, true, true, true, true, true, true, true, true, true, true, true, true, true, true, true, true, true, true, true, false, true, false, false, false, false, false, false, false] rfl rfl (any_of HT_.out (by kernel_rfl)) (fun _ _ _ h => h) (Or.inl ⟨by rfl, ?_⟩) ?_ ?_
            rotate_left
            ·intro w'
             go_simp
             with_reducible rfl
            rotate_left
            ·simp only [Act.put, List.setIfInBounds_toArray, List.set_cons_zero, List.set_cons_succ, i64_w, i32_w]
             rfl
            refine take_ (i := 35) (N := some 91) (v := ?_) (a' := ?_) #[true, true, true, true, true, true, true, true, true, true, true, true, true, true, true, true, true, true, true, true, true, true, true, true, true, true, true, true, true, true, true, true, true, true, true, true, true, false, false, false, false, false, false, false] rfl rfl (take_ofW HT_.out HW_.out (by kernel_rfl)) (fun _ _ _ h => h) (Or.inl ⟨by rfl, ?_⟩) hHeld ?_ ?_
            rotate_left
            ·rintro w' ⟨s0, s1, s2, s3, s4, s5, s6, s7, s8, s9⟩
             go_simp
             with_reducible rfl
            rotate_left
            ·simp only [Act.put, List.setIfInBounds_toArray, List.set_cons_zero, List.set_cons_succ, i64_w, i32_w]
             rfl
            refine take_ (i := 37) (N := some 93) (v := ?_) (a' := ?_) #[true, true, true, true, true, true, true, true, true, true, true, true, true, true, true, true, true, true, true, true, true, true, true, true, true, true, true, true, true, true, true, true, true, true, true, true, true, true, false, false, false, false, false, false] rfl rfl (take_ofW HT_.out HW_.out (by kernel_rfl)) (fun _ _ _ h => h) (Or.inl ⟨by rfl, ?_⟩) hHeld ?_ ?_
            rotate_left
            ·rintro w' ⟨s0, s1, s2, s3, s4, s5, s6, s7, s8, s9⟩
             go_simp
             with_reducible rfl
            rotate_left
            ·simp only [Act.put, List.setIfInBounds_toArray, List.set_cons_zero, List.set_cons_succ, i64_w, i32_w]
             rfl
            refine pure_ (i := 38) (N := some 94) (v := ?_) (a' := ?_) #[true, true, true, true, true, true, true, true, true, true, true, true, true, true, true, true, true, true, true, true, true, true, true, true, true, true, true, true, true, true, true, true, true, true, true, true, true, true, true, false, false, false, false, false] rfl rfl (any_of HT_.out (by kernel_rfl)) (fun _ _ _ h => h) (Or.inl ⟨by rfl, ?_⟩) ?_ ?_
            rotate_left
            ·intro w'
             go_simp
             with_reducible rfl
            rotate_left
            ·simp only [Act.put, List.setIfInBounds_toArray, List.set_cons_zero, List.set_cons_succ, i64_w, i32_w]
             rfl
            refine one_ (i := 39) (N := some 95) #[true, true, true, true, true, true, true, true, true, true, true, true, true, true, true, true, true, true, true, true, true, true, true, true, true, true, true, true, true, true, true, true, true, true, true, true, true, true, true, true, false, false, false, false] rfl rfl (one_of HT_.out (by kernel_rfl)) (by decide) (fun K hK => ?_)
            refine goes_ Tryz.func17 (by kernel_rfl) rfl #[.string (a0_0.extract 0 (a0_1 : Int).toNat), .string (⟨#[32]⟩ : ByteArray), .bool true] (by rfl) rfl rfl (by (try simp only [List.map_toArray, List.map_cons, List.map_nil]); first | done | rfl | (simp only [List.length_drop, List.length_take]; rfl) | (simp only [Int.toNat_natCast, ByteArray.extract_zero_size]; rfl)) ?_
            with_reducible refine (spec_Start.calls k (a0_0.extract 0 (a0_1 : Int).toNat) (⟨#[32]⟩ : ByteArray) true t161 _ A22.out).mono ?_
            rintro e w' ⟨rfl, ⟨nd, rfl⟩⟩
            refine ⟨_, rfl, ?_⟩
            refine hK.out _ _ ⟨(blk_cell BK145.out 0).trans rfl, (blk_cell BK145.out 1).trans rfl, (blk_cell BK150.out 0).trans rfl, (blk_cell BK150.out 1).trans rfl, (blk_cell BK155.out 0).trans rfl, (blk_cell BK155.out 1).trans rfl, (blk_cell BK160.out 0).trans rfl, (blk_cell BK160.out 1).trans rfl, (blk_cell BK122.out 0).trans rfl, (blk_cell BK122.out 1).trans rfl⟩ (fun hHeld => ?_)
            clear hK K
            refine norm_ (a' := ?_) ?_ ?_
            rotate_left
            ·show Act.put _ (some 95) _ = _
             simp only [Act.put, List.setIfInBounds_toArray, List.set_cons_zero, List.set_cons_succ, i64_w, i32_w]
             rfl
            refine pure_ (i := 40) (N := some 96) (v := ?_) (a' := ?_) #[true, true, true, true, true, true, true, true, true, true, true, true, true, true, true, true, true, true, true, true, true, true, true, true, true, true, true, true, true, true, true, true, true, true, true, true, true, true, true, true, true, false, false, false] rfl rfl (any_of HT_.out (by kernel_rfl)) (fun _ _ _ h => h) (Or.inl ⟨by rfl, ?_⟩) ?_ ?_
            rotate_left
            ·intro w'
             go_simp
             with_reducible rfl
            rotate_left
            ·simp only [Act.put, List.setIfInBounds_toArray, List.set_cons_zero, List.set_cons_succ, i64_w, i32_w]
             rfl
            refine pure_ (i := 41) (N := some 97) (v := ?_) (a' := ?_) #[true, true, true, true, true, true, true, true, true, true, true, true, true, true, true, true, true, true, true, true, true, true, true, true, true, true, true, true, true, true, true, true, true, true, true, true, true, true, true, true, true, true, false, false] rfl rfl (any_of HT_.out (by kernel_rfl)) (fun _ _ _ h => h) (Or.inl ⟨by rfl, ?_⟩) ?_ ?_
            rotate_left
            ·intro w'
             go_simp
             with_reducible rfl
            rotate_left
            ·simp only [Act.put, List.setIfInBounds_toArray, List.set_cons_zero, List.set_cons_succ, i64_w, i32_w]
             rfl
            refine pure_ (i := 42) (N := some 98) (v := ?_) (a' := ?_) #[true, true, true, true, true, true, true, true, true, true, true, true, true, true, true, true, true, true, true, true, true, true, true, true, true, true, true, true, true, true, true, true, true, true, true, true, true, true, true, true, true, true, true, false] rfl rfl (any_of HT_.out (by kernel_rfl)) (fun _ _ _ h => h) (Or.inl ⟨by rfl, ?_⟩) ?_ ?_
            rotate_left
            ·intro w'
             go_simp
             with_reducible rfl
            rotate_left
            ·simp only [Act.put, List.setIfInBounds_toArray, List.set_cons_zero, List.set_cons_succ, i64_w, i32_w]
             rfl
            refine pure_ (i := 43) (N := some 2) (v := ?_) (a' := ?_) #[true, true, true, true, true, true, true, true, true, true, true, true, true, true, true, true, true, true, true, true, true, true, true, true, true, true, true, true, true, true, true, true, true, true, true, true, true, true, true, true, true, true, true, true] rfl rfl (any_of HT_.out (by kernel_rfl)) (fun _ _ _ h => h) (Or.inl ⟨by rfl, ?_⟩) ?_ ?_
            rotate_left
            ·intro w'
             go_simp
             with_reducible rfl
            rotate_left
            ·simp only [Act.put, List.setIfInBounds_toArray, List.set_cons_zero, List.set_cons_succ, i64_w, i32_w]
             rfl
            refine done_ (done_of HT_.out (by kernel_rfl)) ?_
            try go_wp2
            go_ret
            exact ⟨by first | rfl | (simp [errW_none, errW_some] <;> rfl) | (simp [*, errW_none, errW_some] <;> rfl), by repeat (first | (with_reducible first | exact HB.out | apply below_alloc | apply pw_below_drewN | apply below_drew1 | refine below_set ?_ GE122.out | refine below_set ?_ GE145.out | refine below_set ?_ GE150.out | refine below_set ?_ GE155.out | refine below_set ?_ GE160.out) | exact HB.out)⟩
           ·rw [if_neg c19] at H
            exact absurd H (by simp)
          ·rw [if_neg c18] at H
           exact absurd H (by simp)
         ·rw [if_neg c17] at H
          exact absurd ((Option.some.inj H).trans hr_) (by decide)
        ·rw [if_neg c16] at H
         exact absurd ((Option.some.inj H).trans hr_) (by decide)
       ·rw [if_neg c15] at H
        exact absurd ((Option.some.inj H).trans hr_) (by decide)
      ·replace c14 := Bool.eq_false_iff.mpr c14
       subst c14
       have H1 : (none) = some r := by rw [if_neg (show ¬ (false = true) by decide)] at H; exact H
       clear H; have H := H1; clear H1
       exact absurd H (by simp)
     ·replace c12 := Bool.eq_false_iff.mpr c12
      subst c12
      have H1 : (none) = some r := by rw [if_neg (show ¬ (false = true) by decide)] at H; exact H
      clear H; have H := H1; clear H1
      exact absurd H (by simp)
    ·replace c10 := Bool.eq_false_iff.mpr c10
     subst c10
     have H1 : (none) = some r := by rw [if_neg (show ¬ (false = true) by decide)] at H; exact H
     clear H; have H := H1; clear H1
     exact absurd H (by simp)
   ·replace c8 := Bool.eq_false_iff.mpr c8
    subst c8
    have H1 : (none) = some r := by rw [if_neg (show ¬ (false = true) by decide)] at H; exact H
    clear H; have H := H1; clear H1
    exact absurd H (by simp)
  ·replace c5 := Bool.eq_false_iff.mpr c5
   subst c5
   have H1 : (some true) = some r := by rw [if_neg (show ¬ (false = true) by decide)] at H; exact H
   clear H; have H := H1; clear H1
   obtain rfl := Option.some.inj H
   go_enter Tryz.func5, Tryz.ntmps5
   go_wp2_with (first | ((with_reducible refine gate_dst (N := 1) rfl ?_); (try (refine gate_guard (by rfl) ?_; dsimp only)); refine box_event ?hg (N := 1) ?hd (cs := #[.string a0_0, .int .i64 a0_1]) (t := 23) ?hr ?_; (case hd => rfl); (case hg => rfl); (case hr => first | (go_simp; done) | (go_simp; rfl)); intro gb122 hg w163 hbox hb; have n0_ := Aside0.mk (below_step (by repeat (first | (with_reducible first | exact HB.out | apply below_alloc | apply pw_below_drewN | apply below_drew1) | exact HB.out)) hb); have n1_ := Aside0.mk (hbox); have n2_ := Aside0.mk ((by rw [hg]; exact (below_size (by repeat (first | (with_reducible first | exact HB.out | apply below_alloc | apply pw_below_drewN | apply below_drew1) | exact HB.out))) : w.heap.size ≤ gb122)); have n3_ := Aside0.mk ((by rw [hg]; exact (below_size (by repeat (first | (with_reducible first | exact HB.out | apply below_alloc | apply pw_below_drewN | apply below_drew1) | exact HB.out))) : w.heap.size ≤ gb122)); clear HB; have HB := n0_; have BK122 := n1_; have GW122 := n2_; have GE122 := n3_; clear n0_ n1_ n2_ n3_; clear hb hbox hg; have hcz164_0 : w163.cell? ⟨gb122, 0, none⟩ = some (.string a0_0) := (blk_cell BK122.out 0).trans rfl; have hcz164_1 : w163.cell? ⟨gb122, 1, none⟩ = some (.int .i64 a0_1) := (blk_cell BK122.out 1).trans rfl; have hfz164_0 := blk_frozen BK122.out 0; have hfz164_1 := blk_frozen BK122.out 1) | ((with_reducible refine gate_callee (f := 6) rfl ?_); refine goesL_ (some 17) rfl rfl Tryz.func6 (by kernel_rfl) rfl #[.agg #[.string a0_0, .int .i64 a0_1]] rfl (by (try simp only [List.map_toArray, List.map_cons, List.map_nil]); first | done | rfl | (simp only [List.length_drop, List.length_take]; rfl) | (simp only [Int.toNat_natCast, ByteArray.extract_zero_size]; rfl)) ?_; (with_reducible refine (laws_zzFits2.calls a0_0 a0_1 true _ A2.out).mono ?_); rintro e w165 ⟨rfl, hb⟩; refine ⟨_, rfl, ?_⟩; have n0_ := Aside0.mk (blk_below (g := gb122) (o := .cells #[.string a0_0, .int .i64 a0_1] 23 (0, 0)) (by (with_reducible repeat (first | refine blk_drewN ?_ _ | refine blk_drew ?_ | refine blk_alloc ?_ _)); exact BK122.out) hb); have n1_ := Aside0.mk (below_step (by repeat (first | (with_reducible first | exact HB.out | apply below_alloc | apply pw_below_drewN | apply below_drew1 | refine below_set ?_ GE122.out) | exact HB.out)) hb); clear BK122; clear HB; have BK122 := n0_; have HB := n1_; clear n0_ n1_; (try clear hb); (try clear hb2); (try clear hk); (try clear hi); have hcz166_0 : w165.cell? ⟨gb122, 0, none⟩ = some (.string a0_0) := (blk_cell BK122.out 0).trans rfl; have hcz166_1 : w165.cell? ⟨gb122, 1, none⟩ = some (.int .i64 a0_1) := (blk_cell BK122.out 1).trans rfl; have hfz166_0 := blk_frozen BK122.out 0; have hfz166_1 := blk_frozen BK122.out 1) | ((with_reducible refine gate_callee (f := 11) rfl ?_); refine goesL_ (some 20) rfl rfl Tryz.func11 (by kernel_rfl) rfl #[.agg #[.string a0_0, .int .i64 a0_1]] rfl (by (try simp only [List.map_toArray, List.map_cons, List.map_nil]); first | done | rfl | (simp only [List.length_drop, List.length_take]; rfl) | (simp only [Int.toNat_natCast, ByteArray.extract_zero_size]; rfl)) ?_; (with_reducible refine (spec_DocRight.calls k a0_0 a0_1 false _ A4.out).mono ?_); rintro e w167 ⟨rfl, hb⟩; refine ⟨_, rfl, ?_⟩; have n0_ := Aside0.mk (blk_below (g := gb122) (o := .cells #[.string a0_0, .int .i64 a0_1] 23 (0, 0)) (by (with_reducible repeat (first | refine blk_drewN ?_ _ | refine blk_drew ?_ | refine blk_alloc ?_ _)); exact BK122.out) hb); have n1_ := Aside0.mk (below_step (by repeat (first | (with_reducible first | exact HB.out | apply below_alloc | apply pw_below_drewN | apply below_drew1 | refine below_set ?_ GE122.out) | exact HB.out)) hb); clear BK122; clear HB; have BK122 := n0_; have HB := n1_; clear n0_ n1_; (try clear hb); (try clear hb2); (try clear hk); (try clear hi)))
   go_ret
   exact ⟨by first | rfl | (simp [errW_none, errW_some] <;> rfl) | (simp [*, errW_none, errW_some] <;> rfl), by repeat (first | (with_reducible first | exact HB.out | apply below_alloc | apply pw_below_drewN | apply below_drew1 | refine below_set ?_ GE122.out) | exact HB.out)⟩
 ·replace c3 := Bool.eq_false_iff.mpr c3
  subst c3
  have H1 : (some true) = some r := by rw [if_neg (show ¬ (false = true) by decide)] at H; exact H
  clear H; have H := H1; clear H1
  obtain rfl := Option.some.inj H
  go_enter Tryz.func5, Tryz.ntmps5
  go_wp2_with (first | ((with_reducible refine gate_dst (N := 1) rfl ?_); (try (refine gate_guard (by rfl) ?_; dsimp only)); refine box_event ?hg (N := 1) ?hd (cs := #[.string a0_0, .int .i64 a0_1]) (t := 23) ?hr ?_; (case hd => rfl); (case hg => rfl); (case hr => first | (go_simp; done) | (go_simp; rfl)); intro gb122 hg w168 hbox hb; have n0_ := Aside0.mk (below_step (by repeat (first | (with_reducible first | exact HB.out | apply below_alloc | apply pw_below_drewN | apply below_drew1) | exact HB.out)) hb); have n1_ := Aside0.mk (hbox); have n2_ := Aside0.mk ((by rw [hg]; exact (below_size (by repeat (first | (with_reducible first | exact HB.out | apply below_alloc | apply pw_below_drewN | apply below_drew1) | exact HB.out))) : w.heap.size ≤ gb122)); have n3_ := Aside0.mk ((by rw [hg]; exact (below_size (by repeat (first | (with_reducible first | exact HB.out | apply below_alloc | apply pw_below_drewN | apply below_drew1) | exact HB.out))) : w.heap.size ≤ gb122)); clear HB; have HB := n0_; have BK122 := n1_; have GW122 := n2_; have GE122 := n3_; clear n0_ n1_ n2_ n3_; clear hb hbox hg; have hcz169_0 : w168.cell? ⟨gb122, 0, none⟩ = some (.string a0_0) := (blk_cell BK122.out 0).trans rfl; have hcz169_1 : w168.cell? ⟨gb122, 1, none⟩ = some (.int .i64 a0_1) := (blk_cell BK122.out 1).trans rfl; have hfz169_0 := blk_frozen BK122.out 0; have hfz169_1 := blk_frozen BK122.out 1) | ((with_reducible refine gate_callee (f := 6) rfl ?_); refine goesL_ (some 17) rfl rfl Tryz.func6 (by kernel_rfl) rfl #[.agg #[.string a0_0, .int .i64 a0_1]] rfl (by (try simp only [List.map_toArray, List.map_cons, List.map_nil]); first | done | rfl | (simp only [List.length_drop, List.length_take]; rfl) | (simp only [Int.toNat_natCast, ByteArray.extract_zero_size]; rfl)) ?_; (with_reducible refine (laws_zzFits2.calls a0_0 a0_1 false _ A2.out).mono ?_); rintro e w170 ⟨rfl, hb⟩; refine ⟨_, rfl, ?_⟩; have n0_ := Aside0.mk (blk_below (g := gb122) (o := .cells #[.string a0_0, .int .i64 a0_1] 23 (0, 0)) (by (with_reducible repeat (first | refine blk_drewN ?_ _ | refine blk_drew ?_ | refine blk_alloc ?_ _)); exact BK122.out) hb); have n1_ := Aside0.mk (below_step (by repeat (first | (with_reducible first | exact HB.out | apply below_alloc | apply pw_below_drewN | apply below_drew1 | refine below_set ?_ GE122.out) | exact HB.out)) hb); clear BK122; clear HB; have BK122 := n0_; have HB := n1_; clear n0_ n1_; (try clear hb); (try clear hb2); (try clear hk); (try clear hi)))
  go_ret
  exact ⟨by first | rfl | (simp [errW_none, errW_some] <;> rfl) | (simp [*, errW_none, errW_some] <;> rfl), by repeat (first | (with_reducible first | exact HB.out | apply below_alloc | apply pw_below_drewN | apply below_drew1 | refine below_set ?_ GE122.out) | exact HB.out)⟩
/-- THE ONE PURE STATEMENT of laws_FnWordOut: yours. -/
def laws_FnWordOut.Pure : Prop := ∀ (a0_0 : ByteArray) (a0_1 : Int), a0_0.size ≤ maxLen → (Lit.int .i64 a0_1).wf = true → ∃ k, laws_FnWordOut.f k a0_0 a0_1 = some true
theorem laws_FnWordOut.walk (P : laws_FnWordOut.Pure) (a0_0 : ByteArray) (a0_1 : Int) (w : World) (hg0_0 : a0_0.size ≤ maxLen) (hg0_1 : (Lit.int .i64 a0_1).wf = true) :
  Calls Tryz.prog 5 #[.agg #[.string a0_0, .int .i64 a0_1]] w fun e w' => e = .returned (.bool true) ∧ Below w.heap.size w w' := by
 obtain ⟨k, h⟩ := P a0_0 a0_1 hg0_0 hg0_1
 refine (laws_FnWordOut.calls k a0_0 a0_1 true rfl w h).mono ?_
 rintro e w' ⟨rfl, hd⟩
 exact ⟨rfl, hd⟩
end Go.Proofs.YtkfmjkiefckgoaaGreatDoor.PFnWordOut
