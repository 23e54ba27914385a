/- go-prompt's filters (FilterHasPrefix, FilterHasSuffix, FilterContains, FilterFuzzy): what they tell, by which texts pass; lists of at most 4398046511104 suggestions, texts of ASCII where the case doesn't count, and for the last filter. -/
import Derived.Test.YthbdaoapjnofkaaDoorQHFilS
import Derived.Test.YthbdaoapjnofkaaDoorQHFuz
import Derived.Test.YthbdaoapjnofkaaDoorQPzzContainsx1
namespace Go.Proofs.YthbdaoapjnofkaaDoor.H
open Go.RowKit Go.Proofs.YthbdaoapjnofkaaDoorW.PrintWords Go.Proofs.YthbdaoapjnofkaaDoorW.PrintLast Go.Proofs.YthbdaoapjnofkaaDoorW.PrintMore Go.Proofs.YthbdaoapjnofkaaDoor.R Go.Proofs.YthbdaoapjnofkaaDoor.X Go.Proofs.YthbdaoapjnofkaaDoor.PFnFiltered
set_option linter.unusedVariables false
set_option linter.unusedSimpArgs false
instance (s : ByteArray) : Decidable (Asc s) := inferInstanceAs (Decidable (∀ b ∈ s.data.toList, b.toNat < 128))
/-- A text has another one from place i on. -/
def hasFrom (s t : List Int) : Nat → Bool
  | 0 => false
  | b + 1 => t.isPrefixOf (s.drop (s.length - b)) || hasFrom s t b
def passP (s t : ByteArray) : Option Bool := some (Lib.hasPrefix s.data.toList t.data.toList)
def passS (s t : ByteArray) : Option Bool := if s.size ≤ 140737488355328 then some (Lib.hasSuffix s.data.toList t.data.toList) else none
def passC (s t : ByteArray) : Option Bool := if s.size ≤ 140737488355328 ∧ t.size ≤ 140737488355328 then some (hasFrom (ints s) (ints t) (s.size + 1)) else none
def passF (s t : ByteArray) : Option Bool := if Asc s ∧ Asc t ∧ s.size ≤ 70368744177664 ∧ t.size ≤ 70368744177664 then some ((ints t).isSublist (ints s)) else none
theorem passP_calls (s t : ByteArray) (r : Bool) (w : World) (h : passP s t = some r) : Calls Tryd.prog 87 #[.string s, .string t] w fun e w' => e = .returned (.bool r) ∧ Below w.heap.size w w' := by
  obtain rfl := Option.some.inj h
  refine (Tryd.strings_HasPrefix s t w).mono ?_
  rintro e w' ⟨rfl, rfl⟩
  exact ⟨rfl, Below.refl _ _⟩
theorem passS_calls (s t : ByteArray) (r : Bool) (w : World) (h : passS s t = some r) : Calls Tryd.prog 88 #[.string s, .string t] w fun e w' => e = .returned (.bool r) ∧ Below w.heap.size w w' := by
  unfold passS at h
  split at h
  · rename_i hc
    obtain rfl := Option.some.inj h
    refine (Tryd.strings_HasSuffix s t w (by omega)).mono ?_
    rintro e w' ⟨rfl, rfl⟩
    exact ⟨rfl, Below.refl _ _⟩
  · exact absurd h (by simp)
theorem passF_calls (s t : ByteArray) (r : Bool) (w : World) (h : passF s t = some r) : Calls Tryd.prog 90 #[.string s, .string t] w fun e w' => e = .returned (.bool r) ∧ Below w.heap.size w w' := by
  unfold passF at h
  split at h
  · rename_i hc
    obtain rfl := Option.some.inj h
    exact fuzzy_walk s t w hc.1 hc.2.1 hc.2.2.1 hc.2.2.2
  · exact absurd h (by simp)
theorem prefix_take (t : List Int) (m : List Int) : t.isPrefixOf m = true ↔ m.take t.length = t := by
  rw [List.isPrefixOf_iff_prefix, List.prefix_iff_eq_take]
  exact eq_comm
theorem has_long (s t : List Int) : ∀ b : Nat, b ≤ t.length → hasFrom s t b = false
  | 0, _ => rfl
  | b + 1, h => by
    unfold hasFrom
    rw [has_long s t b (by omega), Bool.or_false, Bool.eq_false_iff]
    intro h2
    rw [prefix_take] at h2
    have h3 := congrArg List.length h2
    rw [List.length_take, List.length_drop] at h3
    omega
theorem zz_from (s t : ByteArray) (hs : s.size ≤ 140737488355328) (ht : t.size ≤ 140737488355328) : ∀ (b i : Nat), s.size + 1 = i + b → ∃ r, PzzContains.goprompt_zzIndex.l0 (b + 1) s t i = some r ∧ decide (r ≥ 0) = hasFrom (ints s) (ints t) b
  | 0, i, he => by
    refine ⟨-1, ?_, rfl⟩
    unfold PzzContains.goprompt_zzIndex.l0
    rw [w64 (by omega) (by omega), if_neg (by omega)]
  | b + 1, i, he => by
    unfold PzzContains.goprompt_zzIndex.l0 hasFrom
    rw [w64 (x := (i : Int) + t.size) (by omega) (by omega), ints_length, show s.size - b = i by omega]
    by_cases hl : (i : Int) + t.size ≤ s.size
    · rw [if_pos hl, if_pos (by omega), if_pos (by omega)]
      have hx : ints (s.extract ((i : Int)).toNat ((i : Int) + t.size).toNat) = ((ints s).drop i).take (ints t).length := by
        rw [ints_extract, ints_length]
        congr 1 <;> omega
      by_cases he2 : (s.extract ((i : Int)).toNat ((i : Int) + t.size).toNat).toList = t.toList
      · rw [if_pos he2]
        have h3 : s.extract ((i : Int)).toNat ((i : Int) + t.size).toNat = t := by
          rw [ByteArray.toList_eq, ByteArray.toList_eq] at he2
          exact str_ext he2
        have h4 : (ints t).isPrefixOf ((ints s).drop i) = true := by rw [prefix_take, ← hx, h3]
        exact ⟨(i : Int), rfl, by rw [h4]; simp⟩
      · rw [if_neg he2, w64 (by omega) (by omega)]
        have h4 : (ints t).isPrefixOf ((ints s).drop i) = false := by
          rw [Bool.eq_false_iff]
          intro h5
          rw [prefix_take, ← hx] at h5
          exact he2 (by rw [ints_inj h5])
        rw [h4, Bool.false_or]
        exact zz_from s t hs ht b (i + 1) (by omega)
    · rw [if_neg hl]
      refine ⟨-1, rfl, ?_⟩
      have h6 := has_long (ints s) (ints t) (b + 1) (by rw [ints_length]; omega)
      unfold hasFrom at h6
      rw [ints_length, show s.size - b = i by omega] at h6
      rw [h6]
      rfl
theorem passC_calls (s t : ByteArray) (r : Bool) (w : World) (h : passC s t = some r) : Calls Tryd.prog 89 #[.string s, .string t] w fun e w' => e = .returned (.bool r) ∧ Below w.heap.size w w' := by
  unfold passC at h
  split at h
  · rename_i hc
    obtain rfl := Option.some.inj h
    obtain ⟨r, h1, h2⟩ := zz_from s t hc.1 hc.2 (s.size + 1) 0 (by omega)
    rw [← h2]
    refine (PzzContains.goprompt_zzContains.calls (s.size + 2) s t (decide (r ≥ 0)) w ?_).mono ?_
    · unfold PzzContains.goprompt_zzContains.f PzzContains.goprompt_zzIndex.f
      rw [show (0 : Int) = ((0 : Nat) : Int) from rfl, h1]
      rfl
    · rintro e w' ⟨rfl, hb⟩
      exact ⟨rfl, hb.below⟩
  · exact absurd h (by simp)
def goprompt_FilterHasPrefix.f (k : Nat) (l0 : List S96) (a1 : ByteArray) (a2 : Bool) : Option (List S96) := goprompt_filterSuggestions.f passP k l0 a1 a2
theorem goprompt_FilterHasPrefix.mono : ∀ a0 a1 a2 k, LeO (goprompt_FilterHasPrefix.f k a0 a1 a2) (goprompt_FilterHasPrefix.f (k + 1) a0 a1 a2) := goprompt_filterSuggestions.mono passP
set_option maxHeartbeats 1000000 in
theorem goprompt_FilterHasPrefix.calls (k : Nat) (A0 : Option Addr) (c0 : Nat) (l0 : List (S96)) (a1 : ByteArray) (a2 : Bool) (r : List (S96)) (w : World) (hr0 : Kd.C k96 w A0 l0.length l0) (hc0 : l0.length ≤ c0) (h : goprompt_FilterHasPrefix.f k l0 a1 a2 = some r) :
    Calls Tryd.prog 65 #[.slice A0 l0.length c0, .string a1, .bool a2] w fun e w' => ∃ v0_ : Value, e = .returned (v0_) ∧ (Kd.R k96 96 w' w.heap.size (fun _ => True) v0_ r ∨ (v0_ = .slice A0 l0.length c0 ∧ r = l0)) ∧ Below w.heap.size w w' := by
  have H := Lib.hid (goprompt_filterSuggestions.calls passP 87 Tryd.func87 (by kernel_rfl) rfl passP_calls k A0 c0 l0 a1 a2 r w hr0 hc0 h)
  clear hr0 hc0 h
  go_enter Tryd.func65, Tryd.ntmps65
  go_wp2_with (go_at_call 86; refine H.out.mono ?_; rintro e w1 ⟨v, rfl, ho, hb⟩)
  go_ret
  exact ⟨v, rfl, ho, hb⟩
def goprompt_FilterHasSuffix.f (k : Nat) (l0 : List S96) (a1 : ByteArray) (a2 : Bool) : Option (List S96) := goprompt_filterSuggestions.f passS k l0 a1 a2
theorem goprompt_FilterHasSuffix.mono : ∀ a0 a1 a2 k, LeO (goprompt_FilterHasSuffix.f k a0 a1 a2) (goprompt_FilterHasSuffix.f (k + 1) a0 a1 a2) := goprompt_filterSuggestions.mono passS
set_option maxHeartbeats 1000000 in
theorem goprompt_FilterHasSuffix.calls (k : Nat) (A0 : Option Addr) (c0 : Nat) (l0 : List (S96)) (a1 : ByteArray) (a2 : Bool) (r : List (S96)) (w : World) (hr0 : Kd.C k96 w A0 l0.length l0) (hc0 : l0.length ≤ c0) (h : goprompt_FilterHasSuffix.f k l0 a1 a2 = some r) :
    Calls Tryd.prog 66 #[.slice A0 l0.length c0, .string a1, .bool a2] w fun e w' => ∃ v0_ : Value, e = .returned (v0_) ∧ (Kd.R k96 96 w' w.heap.size (fun _ => True) v0_ r ∨ (v0_ = .slice A0 l0.length c0 ∧ r = l0)) ∧ Below w.heap.size w w' := by
  have H := Lib.hid (goprompt_filterSuggestions.calls passS 88 Tryd.func88 (by kernel_rfl) rfl passS_calls k A0 c0 l0 a1 a2 r w hr0 hc0 h)
  clear hr0 hc0 h
  go_enter Tryd.func66, Tryd.ntmps66
  go_wp2_with (go_at_call 86; refine H.out.mono ?_; rintro e w1 ⟨v, rfl, ho, hb⟩)
  go_ret
  exact ⟨v, rfl, ho, hb⟩
def goprompt_FilterContains.f (k : Nat) (l0 : List S96) (a1 : ByteArray) (a2 : Bool) : Option (List S96) := goprompt_filterSuggestions.f passC k l0 a1 a2
theorem goprompt_FilterContains.mono : ∀ a0 a1 a2 k, LeO (goprompt_FilterContains.f k a0 a1 a2) (goprompt_FilterContains.f (k + 1) a0 a1 a2) := goprompt_filterSuggestions.mono passC
set_option maxHeartbeats 1000000 in
theorem goprompt_FilterContains.calls (k : Nat) (A0 : Option Addr) (c0 : Nat) (l0 : List (S96)) (a1 : ByteArray) (a2 : Bool) (r : List (S96)) (w : World) (hr0 : Kd.C k96 w A0 l0.length l0) (hc0 : l0.length ≤ c0) (h : goprompt_FilterContains.f k l0 a1 a2 = some r) :
    Calls Tryd.prog 67 #[.slice A0 l0.length c0, .string a1, .bool a2] w fun e w' => ∃ v0_ : Value, e = .returned (v0_) ∧ (Kd.R k96 96 w' w.heap.size (fun _ => True) v0_ r ∨ (v0_ = .slice A0 l0.length c0 ∧ r = l0)) ∧ Below w.heap.size w w' := by
  have H := Lib.hid (goprompt_filterSuggestions.calls passC 89 Tryd.func89 (by kernel_rfl) rfl passC_calls k A0 c0 l0 a1 a2 r w hr0 hc0 h)
  clear hr0 hc0 h
  go_enter Tryd.func67, Tryd.ntmps67
  go_wp2_with (go_at_call 86; refine H.out.mono ?_; rintro e w1 ⟨v, rfl, ho, hb⟩)
  go_ret
  exact ⟨v, rfl, ho, hb⟩
def goprompt_FilterFuzzy.f (k : Nat) (l0 : List S96) (a1 : ByteArray) (a2 : Bool) : Option (List S96) := goprompt_filterSuggestions.f passF k l0 a1 a2
theorem goprompt_FilterFuzzy.mono : ∀ a0 a1 a2 k, LeO (goprompt_FilterFuzzy.f k a0 a1 a2) (goprompt_FilterFuzzy.f (k + 1) a0 a1 a2) := goprompt_filterSuggestions.mono passF
set_option maxHeartbeats 1000000 in
theorem goprompt_FilterFuzzy.calls (k : Nat) (A0 : Option Addr) (c0 : Nat) (l0 : List (S96)) (a1 : ByteArray) (a2 : Bool) (r : List (S96)) (w : World) (hr0 : Kd.C k96 w A0 l0.length l0) (hc0 : l0.length ≤ c0) (h : goprompt_FilterFuzzy.f k l0 a1 a2 = some r) :
    Calls Tryd.prog 68 #[.slice A0 l0.length c0, .string a1, .bool a2] w fun e w' => ∃ v0_ : Value, e = .returned (v0_) ∧ (Kd.R k96 96 w' w.heap.size (fun _ => True) v0_ r ∨ (v0_ = .slice A0 l0.length c0 ∧ r = l0)) ∧ Below w.heap.size w w' := by
  have H := Lib.hid (goprompt_filterSuggestions.calls passF 90 Tryd.func90 (by kernel_rfl) rfl passF_calls k A0 c0 l0 a1 a2 r w hr0 hc0 h)
  clear hr0 hc0 h
  go_enter Tryd.func68, Tryd.ntmps68
  go_wp2_with (go_at_call 86; refine H.out.mono ?_; rintro e w1 ⟨v, rfl, ho, hb⟩)
  go_ret
  exact ⟨v, rfl, ho, hb⟩
end Go.Proofs.YthbdaoapjnofkaaDoor.H
