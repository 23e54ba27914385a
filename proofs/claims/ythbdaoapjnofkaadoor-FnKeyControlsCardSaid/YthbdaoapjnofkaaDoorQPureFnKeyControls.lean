/- The bytes 1 to 26 are controls by their letters: the pure statement behind the law FnKeyControls; no condition. -/
import Derived.Test.YthbdaoapjnofkaaDoorQPFnKeyControlsx1
namespace Go.Proofs.YthbdaoapjnofkaaDoor.Pure
open Go.RowKit Go.Proofs.YthbdaoapjnofkaaDoor.PFnKeyControls Go.Proofs.YthbdaoapjnofkaaDoor.H Go.Proofs.YthbdaoapjnofkaaDoorW.PrintWords Go.Proofs.YthbdaoapjnofkaaDoorW.PrintLast
set_option linter.unusedVariables false
theorem key_f (k : Nat) (h : k < 26) (h9 : k ≠ 8) (h10 : k ≠ 9) (h13 : k ≠ 12) : impl_KeyOf.f (strOfNums [(k : Int) + 1]) = some (ctl (k + 1)) := by
  have h1 : (strOfNums [(k : Int) + 1]).data.toList = [UInt8.ofNat (k + 1)] := by
    rw [strOfNums_data]
    simp only [List.map_cons, List.map_nil]
    rw [show ((k : Int) + 1).toNat = k + 1 by omega]
  have h2 : (UInt8.ofNat (k + 1)).toNat = k + 1 := by simp; omega
  unfold impl_KeyOf.f ctlOf
  rw [h1]
  simp only [h2]
  rw [if_pos (by omega)]
theorem FnKeyControls : laws_FnKeyControls.Pure := by
  intro n hn
  have h0 : 0 ≤ n := by
    simp [Lit.wf, IntKind.min, IntKind.max, IntKind.signed] at hn
    omega
  obtain ⟨m, rfl⟩ := Int.eq_ofNat_of_zero_le h0
  obtain ⟨k, hk⟩ : ∃ k, k = m % 26 := ⟨_, rfl⟩
  have hk26 : k < 26 := by omega
  have he : (1 + (Int.tmod (m : Int) 26)) % 256 = (k : Int) + 1 := by
    rw [Int.tmod_eq_emod_of_nonneg (by omega)]
    omega
  unfold laws_FnKeyControls.f
  rw [he]
  by_cases h9 : (k : Int) + 1 = 9
  · rw [if_pos h9]
  rw [if_neg h9]
  by_cases h10 : (k : Int) + 1 = 10
  · rw [if_pos h10]
  rw [if_neg h10]
  by_cases h13 : (k : Int) + 1 = 13
  · rw [if_pos h13]
  rw [if_neg h13, key_f k hk26 (by omega) (by omega) (by omega)]
  have he2 : (((65 + ((k : Int) + 1)) % 256) - 1) % 256 = (k : Int) + 65 := by omega
  rw [he2]
  simp only [Option.bind_some]
  have hs : (strOfNums [(k : Int) + 65]).size = 1 := by rw [strOfNums_size]; rfl
  rw [hs, if_pos (by omega)]
  have ht : (ctl (k + 1)).toList = ((⟨#[67, 111, 110, 116, 114, 111, 108]⟩ : ByteArray) ++ (strOfNums [(k : Int) + 65])).toList := by
    rw [ByteArray.toList_eq, ByteArray.toList_eq]
    have h1 : (strOfNums [(k : Int) + 65]).data.toList = [UInt8.ofNat (k + 65)] := by
      rw [strOfNums_data]
      simp only [List.map_cons, List.map_nil]
      rw [show ((k : Int) + 65).toNat = k + 65 by omega]
    have h2 : ∀ a b : ByteArray, (a ++ b).data.toList = a.data.toList ++ b.data.toList := fun a b => by simp
    rw [h2, h1]
    unfold ctl
    rw [show 64 + (k + 1) = k + 65 by omega]
    rfl
  rw [ht]
  simp
end Go.Proofs.YthbdaoapjnofkaaDoor.Pure
