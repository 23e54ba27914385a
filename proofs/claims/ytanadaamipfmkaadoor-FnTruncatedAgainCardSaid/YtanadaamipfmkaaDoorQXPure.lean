/- Plain lemmas of this seat's pure proofs: rounds, places in lists and texts, code points of ASCII. -/
import Derived.Test.YtanadaamipfmkaaDoorQXRunes
import Derived.Lib.Strings
namespace Go.Proofs.YtanadaamipfmkaaDoor.X
open Go.RowKit Go.Proofs.YtanadaamipfmkaaDoorW.PrintWords Go.Proofs.YtanadaamipfmkaaDoor.R
set_option linter.unusedVariables false
theorem ev_ifp {α : Type} {c : Prop} [Decidable c] {f g : Nat → Option α} {r : α} (hc : c) (h : Ev f r) : Ev (fun k => if c then f k else g k) r := Ev.congr (fun _ => if_pos hc) h
theorem ev_ifn {α : Type} {c : Prop} [Decidable c] {f g : Nat → Option α} {r : α} (hc : ¬ c) (h : Ev g r) : Ev (fun k => if c then f k else g k) r := Ev.congr (fun _ => if_neg hc) h
theorem ev_some {α : Type} {r r' : α} (h : r = r') : Ev (fun _ => some r) r' := h ▸ Ev.now r
theorem ev_bind {α β : Type} {g : Nat → Option α} {f : Nat → α → Option β} {a : α} {r : β} (h : Ev g a) (k : Ev (fun n => f n a) r) : Ev (fun n => (g n).bind (fun x => f n x)) r := Ev.bind h k
theorem w64 {x : Int} (h0 : -9223372036854775808 ≤ x) (h1 : x ≤ 9223372036854775807) : wrap64 x = x := by unfold wrap64; omega
theorem w32 {x : Int} (h0 : -2147483648 ≤ x) (h1 : x ≤ 2147483647) : wrap32 x = x := by unfold wrap32; omega
/-- A text's bytes as numbers. -/
def ints (s : ByteArray) : List Int := s.data.toList.map fun b => (b.toNat : Int)
theorem dlen (s : ByteArray) : s.data.toList.length = s.size := by rw [Array.length_toList]; rfl
theorem ints_length (s : ByteArray) : (ints s).length = s.size := by rw [ints, List.length_map, dlen]
theorem bt_nat (s : ByteArray) (i : Nat) (h : i < s.size) : bt s (i : Int) = ((s.data.toList[i]'(by rw [dlen]; exact h)).toNat : Int) := by
  unfold bt
  rw [dif_pos (by simpa using h)]
  rfl
theorem bt_ints (s : ByteArray) (i : Nat) (h : i < s.size) : bt s (i : Int) = (ints s)[i]'(by rw [ints_length]; exact h) := by
  rw [bt_nat s i h]; simp [ints]
end Go.Proofs.YtanadaamipfmkaaDoor.X
