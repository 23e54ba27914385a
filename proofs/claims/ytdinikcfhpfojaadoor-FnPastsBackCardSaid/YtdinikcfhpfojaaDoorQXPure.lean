/- Plain lemmas of this seat's pure proofs: rounds, places in lists and texts, code points of ASCII. -/
import Derived.Test.YtdinikcfhpfojaaDoorQXRunes
import Derived.Lib.Strings
namespace Go.Proofs.YtdinikcfhpfojaaDoor.X
open Go.RowKit Go.Proofs.YtdinikcfhpfojaaDoorW.PrintWords Go.Proofs.YtdinikcfhpfojaaDoor.R
set_option linter.unusedVariables false
theorem ev_ifp {α : Type} {c : Prop} [Decidable c] {f g : Nat → Option α} {r : α} (hc : c) (h : Ev f r) : Ev (fun k => if c then f k else g k) r := Ev.congr (fun _ => if_pos hc) h
theorem ev_ifn {α : Type} {c : Prop} [Decidable c] {f g : Nat → Option α} {r : α} (hc : ¬ c) (h : Ev g r) : Ev (fun k => if c then f k else g k) r := Ev.congr (fun _ => if_neg hc) h
theorem ev_some {α : Type} {r r' : α} (h : r = r') : Ev (fun _ => some r) r' := h ▸ Ev.now r
theorem ev_bind {α β : Type} {g : Nat → Option α} {f : Nat → α → Option β} {a : α} {r : β} (h : Ev g a) (k : Ev (fun n => f n a) r) : Ev (fun n => (g n).bind (fun x => f n x)) r := Ev.bind h k
theorem ev_const {α : Type} {x : Option α} {r : α} (h : x = some r) : Ev (fun _ => x) r := ⟨0, fun _ _ => h⟩
theorem w64 {x : Int} (h0 : -9223372036854775808 ≤ x) (h1 : x ≤ 9223372036854775807) : wrap64 x = x := by unfold wrap64; omega
/-- A text's bytes as numbers. -/
def ints (s : ByteArray) : List Int := s.data.toList.map fun b => (b.toNat : Int)
theorem dlen (s : ByteArray) : s.data.toList.length = s.size := by rw [Array.length_toList]; rfl
theorem ints_length (s : ByteArray) : (ints s).length = s.size := by rw [ints, List.length_map, dlen]
theorem str_ext {a b : ByteArray} (h : a.data.toList = b.data.toList) : a = b := by
  cases a; cases b; simp at h; simp [h]
theorem ints_inj {a b : ByteArray} (h : ints a = ints b) : a = b := by
  refine str_ext ?_
  unfold ints at h
  refine List.map_inj_right (f := fun b : UInt8 => (b.toNat : Int)) ?_ |>.1 h
  intro x y hxy
  have e : (x.toNat : Int) = (y.toNat : Int) := hxy
  exact UInt8.toNat_inj.1 (by omega)
theorem bt_nat (s : ByteArray) (i : Nat) (h : i < s.size) : bt s (i : Int) = ((s.data.toList[i]'(by rw [dlen]; exact h)).toNat : Int) := by
  unfold bt
  rw [dif_pos (by simpa using h)]
  rfl
theorem bt_ints (s : ByteArray) (i : Nat) (h : i < s.size) : bt s (i : Int) = (ints s)[i]'(by rw [ints_length]; exact h) := by
  rw [bt_nat s i h]; simp [ints]
theorem rd_nat (l : List Int) (i : Nat) (h : i < l.length) : rd l (i : Int) = l[i] := by
  unfold rd
  rw [List.getD_eq_getElem?_getD]
  simp [List.getElem?_eq_getElem h]
/-- All of ASCII. -/
def Asc (s : ByteArray) : Prop := ∀ b ∈ s.data.toList, b.toNat < 128
theorem runesAt_asc (s : ByteArray) (h : Asc s) : ∀ (b i : Nat), i + b = s.size → runesAt s b i = (ints s).drop i
  | 0, i, he => by
    unfold runesAt
    rw [List.drop_of_length_le (by rw [ints_length]; omega)]
  | b + 1, i, he => by
    have hi : i < s.size := by omega
    have hb : (s[i]'hi).toNat < 128 := h _ (by rw [show s[i]'hi = s.data[i]'hi from rfl]; simp)
    unfold runesAt
    have hl : i < (ints s).length := by rw [ints_length]; exact hi
    rw [if_pos hi, decode_ascii s i hi hb, runesAt_asc s h b (i + 1) (by omega), List.drop_eq_getElem_cons hl]
    congr 1
    simp [ints]; rfl
theorem runesOf_asc {s : ByteArray} (h : Asc s) : runesOf s = ints s := by
  have := runesAt_asc s h s.size 0 (by omega)
  simpa [runesOf] using this
theorem ints_append (a b : ByteArray) : ints (a ++ b) = ints a ++ ints b := by
  unfold ints
  have : (a ++ b).data.toList = a.data.toList ++ b.data.toList := by simp
  rw [this, List.map_append]
theorem encode_ascii (n : Int) (h0 : 0 ≤ n) (h : n < 128) : Utf8.encode n = ⟨#[UInt8.ofNat n.toNat]⟩ := by
  obtain ⟨m, rfl⟩ := Int.eq_ofNat_of_zero_le h0
  unfold Utf8.encode
  have hm : m < 128 := by omega
  have : Utf8.valid (m : Int) = true := by simp [Utf8.valid]; omega
  simp [this, hm]
theorem runesBytes_fold (l : List Int) (h : ∀ x ∈ l, 0 ≤ x ∧ x < 128) : ∀ acc : ByteArray, ints (l.foldl (fun r n => r ++ Utf8.encode n) acc) = ints acc ++ l := by
  induction l with
  | nil => intro acc; simp
  | cons x l ih =>
    intro acc
    have hx := h x (by simp)
    rw [List.foldl_cons, ih (fun y hy => h y (by simp [hy])), ints_append, encode_ascii x hx.1 hx.2]
    obtain ⟨m, rfl⟩ := Int.eq_ofNat_of_zero_le hx.1
    have : m < 256 := by omega
    simp [ints, Nat.mod_eq_of_lt this]
theorem ints_runesBytes (l : List Int) (h : ∀ x ∈ l, 0 ≤ x ∧ x < 128) : ints (runesBytes l) = l := by
  have := runesBytes_fold l h ByteArray.empty
  simpa [runesBytes, ints] using this
theorem asc_ints {s : ByteArray} (h : Asc s) : ∀ x ∈ ints s, 0 ≤ x ∧ x < 128 := by
  intro x hx
  unfold ints at hx
  obtain ⟨b, hb, rfl⟩ := List.mem_map.1 hx
  have := h b hb
  constructor <;> omega
theorem runesBytes_ints {s : ByteArray} (h : Asc s) : runesBytes (ints s) = s := ints_inj (ints_runesBytes _ (asc_ints h))
end Go.Proofs.YtdinikcfhpfojaaDoor.X
