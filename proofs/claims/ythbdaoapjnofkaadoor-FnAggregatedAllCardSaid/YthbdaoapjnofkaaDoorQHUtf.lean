/- Signs written as UTF-8 are read as these signs again; no condition. -/
import Derived.Test.YthbdaoapjnofkaaDoorQXRunes
import Derived.Laws.Runes
namespace Go.Proofs.YthbdaoapjnofkaaDoor.H
open Go.Proofs.YthbdaoapjnofkaaDoor.R
set_option linter.unusedVariables false
theorem get_list (s : ByteArray) (n : Nat) : s.get! n = s.data.toList.getD n 0 := by
  cases s with
  | mk d =>
    show d[n]! = _
    by_cases h : n < d.size
    · rw [getElem!_pos d n h, List.getD_eq_getElem?_getD, List.getElem?_eq_getElem (by simpa using h)]
      simp
    · rw [getElem!_neg d n h, List.getD_eq_getElem?_getD, List.getElem?_eq_none (by simpa using h)]
      rfl
theorem ofNat_lt (n : Nat) (h : n < 256) : (UInt8.ofNat n).toNat = n := by
  simp; omega
theorem at_add (p e q : List UInt8) (k : Nat) (h : k < e.length) : (p ++ e ++ q).getD (p.length + k) 0 = e.getD k 0 := by
  rw [List.getD_eq_getElem?_getD, List.getD_eq_getElem?_getD, List.append_assoc, List.getElem?_append_right (by omega), Nat.add_sub_cancel_left, List.getElem?_append_left h]
/-- What a sign is written as is read as this sign again. -/
theorem decode_enc (s : ByteArray) (p q : List UInt8) (c : Int) (hv : Utf8.valid c = true) (hs : s.data.toList = p ++ (Utf8.encode c).data.toList ++ q) :
    Utf8.decode s p.length = (c.toNat, (Utf8.encode c).size) := by
  have hsz : s.size = p.length + (Utf8.encode c).data.toList.length + q.length := by
    have : s.size = s.data.toList.length := by rw [Array.length_toList]; rfl
    rw [this, hs]; simp; omega
  have hat : ∀ k, k < (Utf8.encode c).data.toList.length → s.get! (p.length + k) = (Utf8.encode c).data.toList.getD k 0 := fun k hk => by
    rw [get_list, hs, at_add _ _ _ _ hk]
  have hv2 := hv
  rw [validRune_eq] at hv2
  have hv3 := of_decide_eq_true hv2
  have hc0 : 0 ≤ c := by omega
  obtain ⟨n, rfl⟩ : ∃ n : Nat, c = n := ⟨c.toNat, by omega⟩
  simp only [Int.toNat_natCast]
  have hvn : (n < 55296 ∨ 57343 < n) ∧ n ≤ 1114111 := by omega
  clear hv2 hv3 hc0 hs
  by_cases h1 : n < 128
  · have he : Utf8.encode (n : Int) = ⟨#[UInt8.ofNat n]⟩ := by unfold Utf8.encode; simp only [hv, if_true, Int.toNat_natCast]; rw [if_pos h1]
    rw [he] at hsz hat ⊢
    simp only [List.length_cons, List.length_nil] at hsz hat
    have a0 : (s.get! (p.length + 0)).toNat = n := by rw [hat 0 (by omega)]; exact ofNat_lt n (by omega)
    unfold Utf8.decode
    simp only [a0]
    rw [if_pos h1]; rfl
  by_cases h2 : n < 2048
  · have he : Utf8.encode (n : Int) = ⟨#[UInt8.ofNat (192 + n / 64), UInt8.ofNat (128 + n % 64)]⟩ := by unfold Utf8.encode; simp only [hv, if_true, Int.toNat_natCast]; rw [if_neg h1, if_pos h2]
    rw [he] at hsz hat ⊢
    simp only [List.length_cons, List.length_nil] at hsz hat
    have a0 : (s.get! (p.length + 0)).toNat = 192 + n / 64 := by rw [hat 0 (by omega)]; exact ofNat_lt _ (by omega)
    have a1 : (s.get! (p.length + 1)).toNat = 128 + n % 64 := by rw [hat 1 (by omega)]; exact ofNat_lt _ (by omega)
    unfold Utf8.decode
    simp only [a0, a1]
    rw [if_neg (by omega), if_pos (by simp; omega), if_pos (by omega)]
    refine Prod.ext ?_ rfl
    show (192 + n / 64) % 32 * 64 + (128 + n % 64) % 64 = n
    omega
  by_cases h3 : n < 65536
  · have he : Utf8.encode (n : Int) = ⟨#[UInt8.ofNat (224 + n / 4096), UInt8.ofNat (128 + n / 64 % 64), UInt8.ofNat (128 + n % 64)]⟩ := by unfold Utf8.encode; simp only [hv, if_true, Int.toNat_natCast]; rw [if_neg h1, if_neg h2, if_pos h3]
    rw [he] at hsz hat ⊢
    simp only [List.length_cons, List.length_nil] at hsz hat
    have a0 : (s.get! (p.length + 0)).toNat = 224 + n / 4096 := by rw [hat 0 (by omega)]; exact ofNat_lt _ (by omega)
    have a1 : (s.get! (p.length + 1)).toNat = 128 + n / 64 % 64 := by rw [hat 1 (by omega)]; exact ofNat_lt _ (by omega)
    have a2 : (s.get! (p.length + 2)).toNat = 128 + n % 64 := by rw [hat 2 (by omega)]; exact ofNat_lt _ (by omega)
    have hE : (224 + n / 4096) % 16 * 4096 + (128 + n / 64 % 64) % 64 * 64 + (128 + n % 64) % 64 = n := by omega
    unfold Utf8.decode
    simp only [a0, a1, a2, hE]
    rw [if_neg (by omega), if_neg (by simp; omega), if_pos (by simp; omega), if_pos (by simp only [hv]; simp; omega)]
    rfl
  · have he : Utf8.encode (n : Int) = ⟨#[UInt8.ofNat (240 + n / 262144), UInt8.ofNat (128 + n / 4096 % 64), UInt8.ofNat (128 + n / 64 % 64), UInt8.ofNat (128 + n % 64)]⟩ := by unfold Utf8.encode; simp only [hv, if_true, Int.toNat_natCast]; rw [if_neg h1, if_neg h2, if_neg h3]
    rw [he] at hsz hat ⊢
    simp only [List.length_cons, List.length_nil] at hsz hat
    have a0 : (s.get! (p.length + 0)).toNat = 240 + n / 262144 := by rw [hat 0 (by omega)]; exact ofNat_lt _ (by omega)
    have a1 : (s.get! (p.length + 1)).toNat = 128 + n / 4096 % 64 := by rw [hat 1 (by omega)]; exact ofNat_lt _ (by omega)
    have a2 : (s.get! (p.length + 2)).toNat = 128 + n / 64 % 64 := by rw [hat 2 (by omega)]; exact ofNat_lt _ (by omega)
    have a3 : (s.get! (p.length + 3)).toNat = 128 + n % 64 := by rw [hat 3 (by omega)]; exact ofNat_lt _ (by omega)
    have hE : (240 + n / 262144) % 8 * 262144 + (128 + n / 4096 % 64) % 64 * 4096 + (128 + n / 64 % 64) % 64 * 64 + (128 + n % 64) % 64 = n := by omega
    unfold Utf8.decode
    simp only [a0, a1, a2, a3, hE]
    rw [if_neg (by omega), if_neg (by simp; omega), if_neg (by simp; omega), if_pos (by simp; omega), if_pos (by simp only [hv]; simp; omega)]
    rfl
def eL (xs : List Int) : List UInt8 := xs.flatMap fun x => (Utf8.encode x).data.toList
theorem runesBytes_list (xs : List Int) : (runesBytes xs).data.toList = eL xs := by
  unfold runesBytes eL
  suffices h : ∀ (acc : ByteArray), (xs.foldl (fun r n => r ++ Utf8.encode n) acc).data.toList = acc.data.toList ++ xs.flatMap fun x => (Utf8.encode x).data.toList by
    rw [h]; rfl
  induction xs with
  | nil => intro acc; simp
  | cons x xs ih => intro acc; rw [List.foldl_cons, ih]; simp
theorem enc_pos (c : Int) : 1 ≤ (Utf8.encode c).size := by
  unfold Utf8.encode
  dsimp only
  repeat' split
  all_goals (simp [ByteArray.size])
theorem runes_rt (xs : List Int) (hv : ∀ x ∈ xs, Utf8.valid x = true) : ∀ (s : ByteArray) (p : List UInt8) (b : Nat), s.data.toList = p ++ eL xs → (eL xs).length ≤ b → runesAt s b p.length = xs := by
  induction xs with
  | nil =>
    intro s p b hs hb
    have hsz : s.size = p.length := by
      have : s.size = s.data.toList.length := by rw [Array.length_toList]; rfl
      rw [this, hs]; simp [eL]
    cases b with
    | zero => rfl
    | succ b => unfold runesAt; rw [if_neg (by omega)]
  | cons x xs ih =>
    intro s p b hs hb
    have he : eL (x :: xs) = (Utf8.encode x).data.toList ++ eL xs := rfl
    have hp := enc_pos x
    have hl : (Utf8.encode x).data.toList.length = (Utf8.encode x).size := by rw [Array.length_toList]; rfl
    have hd := decode_enc s p (eL xs) x (hv x (by simp)) (by rw [hs, he, List.append_assoc])
    have hsz : s.size = p.length + (eL (x :: xs)).length := by
      have : s.size = s.data.toList.length := by rw [Array.length_toList]; rfl
      rw [this, hs]; simp
    rw [he, List.length_append, hl] at hb hsz
    obtain ⟨b, rfl⟩ : ∃ b', b = b' + 1 := ⟨b - 1, by omega⟩
    unfold runesAt
    rw [if_pos (by omega), hd]
    have := ih (fun y hy => hv y (by simp [hy])) s (p ++ (Utf8.encode x).data.toList) b (by rw [hs, he, List.append_assoc]) (by omega)
    rw [List.length_append, hl] at this
    rw [this]
    have hv2 := hv x (by simp)
    rw [validRune_eq] at hv2
    have hv3 := of_decide_eq_true hv2
    congr 1
    show ((x.toNat : Nat) : Int) = x
    omega
theorem valid_nat (n : Nat) (h : (n < 55296 ∨ 57343 < n) ∧ n ≤ 1114111) : Utf8.valid (n : Int) = true := by
  rw [validRune_eq]; exact decide_eq_true (by omega)
theorem decode_valid (s : ByteArray) (i : Nat) : Utf8.valid ((Utf8.decode s i).1 : Int) = true := by
  unfold Utf8.decode
  dsimp only
  repeat' split
  all_goals first
    | (rename_i h; simp only [Bool.and_eq_true] at h; exact h.2)
    | (apply valid_nat; simp only [Utf8.runeError]; omega)
theorem runesAt_valid (s : ByteArray) : ∀ b i, ∀ x ∈ runesAt s b i, Utf8.valid x = true
  | 0, _ => by simp [runesAt]
  | b + 1, i => by
    intro x hx
    unfold runesAt at hx
    split at hx
    · rcases List.mem_cons.1 hx with rfl | hx
      · exact decode_valid s i
      · exact runesAt_valid s b _ x hx
    · simp at hx
theorem runesOf_valid (s : ByteArray) : ∀ x ∈ runesOf s, Utf8.valid x = true := runesAt_valid s _ _
theorem runesOf_bytes (xs : List Int) (hv : ∀ x ∈ xs, Utf8.valid x = true) : runesOf (runesBytes xs) = xs := by
  have h := runes_rt xs hv (runesBytes xs) [] (runesBytes xs).size (by rw [runesBytes_list]; rfl) (by rw [← runesBytes_list, Array.length_toList]; exact Nat.le_refl _)
  exact h
end Go.Proofs.YthbdaoapjnofkaaDoor.H
