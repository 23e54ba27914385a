/- Whether a text is UTF-8 of at most 1000 bytes, as the laws ask (spec.UTF8): what it tells, for texts of at most 2^62 bytes. -/
import Derived.Test.YtanadaamipfmkaaDoorQHBase
import Derived.Laws.RangeAny
import Derived.Lib.Strings
namespace Go.Proofs.YtanadaamipfmkaaDoor.H
open Go.RowKit Go.Proofs.YtanadaamipfmkaaDoorW.PrintWords Go.Proofs.YtanadaamipfmkaaDoorW.PrintLast
set_option linter.unusedVariables false
set_option linter.unusedSimpArgs false
/-- A code point that is none stands at place i. -/
def badU (s : ByteArray) (i : Nat) : Bool := decide ((Utf8.decode s i).1 = 65533) && (decide ((s.size : Int) - i < 3) || !((s.extract i (i + 3)).toList == [239, 191, 189]))
def utf8At (s : ByteArray) : Nat → Nat → Bool
  | 0, _ => decide ((s.size : Int) ≤ 1000)
  | b + 1, i => if i < s.size then (if badU s i then false else utf8At s b (i + (Utf8.decode s i).2)) else decide ((s.size : Int) ≤ 1000)
def utf8B (s : ByteArray) : Bool := utf8At s s.size 0
def spec_UTF8.f (a0 : ByteArray) : Option Bool := if a0.size ≤ 4611686018427387904 then some (utf8B a0) else none
theorem width_posU (s : ByteArray) (k : Nat) (hp : k < s.size) : 1 ≤ (Utf8.decode s k).2 := by
  by_cases h : (s[k]'hp).toNat < 128
  · rw [decode_ascii s k hp h]; exact Nat.le_refl _
  · exact (decode_high s k hp (by omega)).2
set_option maxHeartbeats 2000000 in
theorem utf8_walk (s : ByteArray) (w : World) (hs : s.size ≤ 4611686018427387904) :
    Calls Tryd.prog 21 #[.string s] w fun e w' => e = .returned (.bool (utf8B s)) ∧ ∃ pos, w' = w.iter s pos := by
  go_enter Tryd.func21, Tryd.ntmps21
  go_wp2
  go_loopw [3, 4] (fun _ _ wr => ∃ k b : Nat, s.size ≤ k + b ∧ wr = w.iter s k ∧ utf8B s = utf8At s b k) (fun _ _ wr => s.size - wr.iterPos w.heap.size)
  case atStart => exact ⟨0, s.size, by omega, rfl, rfl⟩
  case round =>
    obtain ⟨k, b, hkb, rfl, hw⟩ := hrel
    by_cases hp : k < s.size
    · have hnx : ∀ ty, (Instr.next (.pointer (some ⟨w.heap.size, 0, none⟩)) true ty).run Tryd.prog (w.iter s k) = _ := fun ty => run_next_any w s k ty hp
      have h1 := width_posU s k hp
      obtain ⟨b, rfl⟩ : ∃ b', b = b' + 1 := ⟨b - 1, by omega⟩
      rw [show utf8At s (b + 1) k = if badU s k then false else utf8At s b (k + (Utf8.decode s k).2) by rw [utf8At, if_pos hp]] at hw
      have HW := Lib.hid hw
      clear hw
      by_cases hc : (Utf8.decode s k).1 = 65533
      · by_cases h3 : (s.size : Int) - k < 3
        · have HB := Lib.hid (show utf8B s = false by rw [HW.out]; simp [badU, hc, h3])
          rw [hc] at hnx
          generalize (Utf8.decode s k).2 = n at *
          clear hc HW
          go_wp2
          go_ret
          exact ⟨by rw [HB.out]; rfl, _, rfl⟩
        · have he : (k : Int) + 3 ≤ s.size := by omega
          have hk3 : ((k : Int) + 3).toNat = k + 3 := by omega
          by_cases hq : (s.extract k (k + 3)).toList = [239, 191, 189]
          · have HB := Lib.hid (show utf8B s = utf8At s b (k + (Utf8.decode s k).2) by rw [HW.out]; simp [badU, hc, h3, hq])
            have hq' : ((s.extract k (k + 3)).toList == ([239, 191, 189] : List UInt8)) = true := beq_iff_eq.2 hq
            rw [hc] at hnx
            generalize (Utf8.decode s k).2 = n at *
            clear hc HW hq
            go_wp2
            go_roundw
            case rel => exact ⟨k + n, b, by omega, rfl, HB.out⟩
            case measure => simp; omega
          · have HB := Lib.hid (show utf8B s = false by rw [HW.out]; simp [badU, hc, h3, hq])
            have hq' : ((s.extract k (k + 3)).toList == ([239, 191, 189] : List UInt8)) = false := beq_eq_false_iff_ne.2 hq
            rw [hc] at hnx
            generalize (Utf8.decode s k).2 = n at *
            clear hc HW hq
            go_wp2
            go_ret
            exact ⟨by rw [HB.out]; rfl, _, rfl⟩
      · have hd : (((Utf8.decode s k).1 : Int) == 65533) = false := beq_eq_false_iff_ne.2 (by omega)
        have HB := Lib.hid (show utf8B s = utf8At s b (k + (Utf8.decode s k).2) by rw [HW.out]; simp [badU, hc])
        generalize Utf8.decode s k = dec at *
        obtain ⟨c, n⟩ := dec
        simp only at *
        clear hc HW
        go_wp2
        go_roundw
        case rel => exact ⟨k + n, b, by omega, rfl, HB.out⟩
        case measure => simp; omega
    · have hnx : ∀ ty, (Instr.next (.pointer (some ⟨w.heap.size, 0, none⟩)) true ty).run Tryd.prog (w.iter s k) = _ := fun ty => run_next_end w s k ty hp
      have HE := Lib.hid (show utf8B s = decide ((s.size : Int) ≤ 1000) by rw [hw]; cases b <;> simp [utf8At, hp])
      clear hw
      go_wp2
      go_ret
      exact ⟨by rw [HE.out]; rfl, _, rfl⟩
theorem spec_UTF8.calls (a0 : ByteArray) (r : Bool) (w : World) (h : spec_UTF8.f a0 = some r) :
    Calls Tryd.prog 21 #[.string a0] w fun e w' => e = .returned (.bool r) ∧ Below w.heap.size w w' := by
  unfold spec_UTF8.f at h
  split at h
  · rename_i hc
    obtain rfl := Option.some.inj h
    refine (utf8_walk a0 w hc).mono ?_
    rintro e w' ⟨rfl, pos, rfl⟩
    exact ⟨rfl, (Below.refl _ _).alloc (Nat.le_refl _) _⟩
  · cases h
theorem utf8_size {s : ByteArray} (h : utf8B s = true) : s.size ≤ 1000 := by
  have go : ∀ b i, s.size ≤ i + b → utf8At s b i = true → s.size ≤ 1000 := by
    intro b
    induction b with
    | zero => intro i _ h; have := of_decide_eq_true h; omega
    | succ b ih =>
      intro i hi h
      by_cases hp : i < s.size
      · rw [utf8At, if_pos hp] at h
        by_cases hb : badU s i
        · simp [hb] at h
        · rw [if_neg hb] at h
          exact ih _ (by have := width_posU s i hp; omega) h
      · rw [utf8At, if_neg hp] at h
        have := of_decide_eq_true h; omega
  exact go s.size 0 (by omega) h
end Go.Proofs.YtanadaamipfmkaaDoor.H
