/- Whether a text is whole UTF-8, as the laws ask (spec.Whole): what it tells, for texts of at most 2^62 bytes. -/
import Derived.Test.YthbdaoapjnofkaaDoorQHBase
import Derived.Laws.RangeAny
import Derived.Lib.Strings
namespace Go.Proofs.YthbdaoapjnofkaaDoor.H
open Go.RowKit Go.Proofs.YthbdaoapjnofkaaDoorW.PrintWords Go.Proofs.YthbdaoapjnofkaaDoorW.PrintLast
set_option linter.unusedVariables false
set_option linter.unusedSimpArgs false
/-- A code point that is none stands at place i. -/
def badAt (s : ByteArray) (i : Nat) : Bool := decide ((Utf8.decode s i).1 = 65533) && (decide ((s.size : Int) - i < 3) || !((s.extract i (i + 3)).toList == [239, 191, 189]))
def wholeAt (s : ByteArray) : Nat → Nat → Bool
  | 0, _ => true
  | b + 1, i => if i < s.size then (if badAt s i then false else wholeAt s b (i + (Utf8.decode s i).2)) else true
def wholeB (s : ByteArray) : Bool := wholeAt s s.size 0
def spec_Whole.f (a0 : ByteArray) : Option Bool := if a0.size ≤ 4611686018427387904 then some (wholeB a0) else none
theorem width_pos (s : ByteArray) (k : Nat) (hp : k < s.size) : 1 ≤ (Utf8.decode s k).2 := by
  by_cases h : (s[k]'hp).toNat < 128
  · rw [decode_ascii s k hp h]; exact Nat.le_refl _
  · exact (decode_high s k hp (by omega)).2
set_option maxHeartbeats 2000000 in
theorem whole_walk (s : ByteArray) (w : World) (hs : s.size ≤ 4611686018427387904) :
    Calls Tryd.prog 38 #[.string s] w fun e w' => e = .returned (.bool (wholeB s)) ∧ ∃ pos, w' = w.iter s pos := by
  go_enter Tryd.func38, Tryd.ntmps38
  go_wp2
  go_loopw [3, 4] (fun _ _ wr => ∃ k b : Nat, s.size ≤ k + b ∧ wr = w.iter s k ∧ wholeB s = wholeAt s b k) (fun _ _ wr => s.size - wr.iterPos w.heap.size)
  case atStart => exact ⟨0, s.size, by omega, rfl, rfl⟩
  case round =>
    obtain ⟨k, b, hkb, rfl, hw⟩ := hrel
    by_cases hp : k < s.size
    · have hnx : ∀ ty, (Instr.next (.pointer (some ⟨w.heap.size, 0, none⟩)) true ty).run Tryd.prog (w.iter s k) = _ := fun ty => run_next_any w s k ty hp
      have h1 := width_pos s k hp
      obtain ⟨b, rfl⟩ : ∃ b', b = b' + 1 := ⟨b - 1, by omega⟩
      rw [show wholeAt s (b + 1) k = if badAt s k then false else wholeAt s b (k + (Utf8.decode s k).2) by rw [wholeAt, if_pos hp]] at hw
      have HW := Lib.hid hw
      clear hw
      by_cases hc : (Utf8.decode s k).1 = 65533
      · by_cases h3 : (s.size : Int) - k < 3
        · have HB := Lib.hid (show wholeB s = false by rw [HW.out]; simp [badAt, hc, h3])
          rw [hc] at hnx
          generalize (Utf8.decode s k).2 = n at *
          clear hc HW
          go_wp2
          go_ret
          exact ⟨by rw [HB.out]; rfl, _, rfl⟩
        · have he : (k : Int) + 3 ≤ s.size := by omega
          have hk3 : ((k : Int) + 3).toNat = k + 3 := by omega
          by_cases hq : (s.extract k (k + 3)).toList = [239, 191, 189]
          · have HB := Lib.hid (show wholeB s = wholeAt s b (k + (Utf8.decode s k).2) by rw [HW.out]; simp [badAt, hc, h3, hq])
            have hq' : ((s.extract k (k + 3)).toList == ([239, 191, 189] : List UInt8)) = true := beq_iff_eq.2 hq
            rw [hc] at hnx
            generalize (Utf8.decode s k).2 = n at *
            clear hc HW hq
            go_wp2
            go_roundw
            case rel => exact ⟨k + n, b, by omega, rfl, HB.out⟩
            case measure => simp; omega
          · have HB := Lib.hid (show wholeB s = false by rw [HW.out]; simp [badAt, hc, h3, hq])
            have hq' : ((s.extract k (k + 3)).toList == ([239, 191, 189] : List UInt8)) = false := beq_eq_false_iff_ne.2 hq
            rw [hc] at hnx
            generalize (Utf8.decode s k).2 = n at *
            clear hc HW hq
            go_wp2
            go_ret
            exact ⟨by rw [HB.out]; rfl, _, rfl⟩
      · have hd : (((Utf8.decode s k).1 : Int) == 65533) = false := beq_eq_false_iff_ne.2 (by omega)
        have HB := Lib.hid (show wholeB s = wholeAt s b (k + (Utf8.decode s k).2) by rw [HW.out]; simp [badAt, hc])
        generalize Utf8.decode s k = dec at *
        obtain ⟨c, n⟩ := dec
        simp only at *
        clear hc HW
        go_wp2
        go_roundw
        case rel => exact ⟨k + n, b, by omega, rfl, HB.out⟩
        case measure => simp; omega
    · have hnx : ∀ ty, (Instr.next (.pointer (some ⟨w.heap.size, 0, none⟩)) true ty).run Tryd.prog (w.iter s k) = _ := fun ty => run_next_end w s k ty hp
      have HE := Lib.hid (show wholeB s = true by rw [hw]; cases b <;> simp [wholeAt, hp])
      clear hw
      go_wp2
      go_ret
      exact ⟨by rw [HE.out]; rfl, _, rfl⟩
theorem spec_Whole.calls (a0 : ByteArray) (r : Bool) (w : World) (h : spec_Whole.f a0 = some r) :
    Calls Tryd.prog 38 #[.string a0] w fun e w' => e = .returned (.bool r) ∧ Below w.heap.size w w' := by
  unfold spec_Whole.f at h
  split at h
  · rename_i hc
    obtain rfl := Option.some.inj h
    refine (whole_walk a0 w hc).mono ?_
    rintro e w' ⟨rfl, pos, rfl⟩
    exact ⟨rfl, (Below.refl _ _).alloc (Nat.le_refl _) _⟩
  · cases h
end Go.Proofs.YthbdaoapjnofkaaDoor.H
