/- Plain lemmas of this seat's pure proofs: rounds, places in lists and texts, code points of ASCII. -/
import Derived.Test.YthbdaoapjnofkaaDoorQXRunes
import Derived.Lib.Strings
namespace Go.Proofs.YthbdaoapjnofkaaDoor.X
open Go.RowKit Go.Proofs.YthbdaoapjnofkaaDoorW.PrintWords Go.Proofs.YthbdaoapjnofkaaDoor.R
set_option linter.unusedVariables false
theorem ev_ifp {α : Type} {c : Prop} [Decidable c] {f g : Nat → Option α} {r : α} (hc : c) (h : Ev f r) : Ev (fun k => if c then f k else g k) r := Ev.congr (fun _ => if_pos hc) h
theorem ev_ifn {α : Type} {c : Prop} [Decidable c] {f g : Nat → Option α} {r : α} (hc : ¬ c) (h : Ev g r) : Ev (fun k => if c then f k else g k) r := Ev.congr (fun _ => if_neg hc) h
theorem ev_some {α : Type} {r r' : α} (h : r = r') : Ev (fun _ => some r) r' := h ▸ Ev.now r
theorem ev_bind {α β : Type} {g : Nat → Option α} {f : Nat → α → Option β} {a : α} {r : β} (h : Ev g a) (k : Ev (fun n => f n a) r) : Ev (fun n => (g n).bind (fun x => f n x)) r := Ev.bind h k
theorem w64 {x : Int} (h0 : -9223372036854775808 ≤ x) (h1 : x ≤ 9223372036854775807) : wrap64 x = x := by unfold wrap64; omega
theorem rd_nat (l : List Int) (i : Nat) (h : i < l.length) : rd l (i : Int) = l[i] := by
  unfold rd
  rw [List.getD_eq_getElem?_getD]
  simp [List.getElem?_eq_getElem h]
end Go.Proofs.YthbdaoapjnofkaaDoor.X
