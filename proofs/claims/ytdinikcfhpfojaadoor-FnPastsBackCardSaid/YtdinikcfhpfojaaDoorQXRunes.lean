/- Texts as code points: what the conversions between strings and slices of runes do, for the printed walks of this seat. -/
import Derived.Test.YtdinikcfhpfojaaDoorQWAll
import Derived.Laws.Cover4
import Derived.Laws.IdiomStrings
namespace Go.Proofs.YtdinikcfhpfojaaDoor.R
open Go.RowKit Go.Proofs.YtdinikcfhpfojaaDoorW.PrintWords
set_option linter.unusedVariables false
/-- The code points of a text from place i on, at most b of them. -/
def runesAt (s : ByteArray) : Nat → Nat → List Int
  | 0, _ => []
  | b + 1, i => if i < s.size then (((Utf8.decode s i).1 : Nat) : Int) :: runesAt s b (i + (Utf8.decode s i).2) else []
def runesOf (s : ByteArray) : List Int := runesAt s s.size 0
theorem runesFrom_eq (s : ByteArray) : ∀ (b i : Nat) (acc : Array Value), Conv.runesFrom s b i acc = acc ++ ((runesAt s b i).map (Value.int .i32)).toArray
  | 0, _, acc => by simp [Conv.runesFrom, runesAt]
  | b + 1, i, acc => by
    unfold Conv.runesFrom runesAt
    by_cases h : i < s.size
    · rw [if_pos h, if_pos h]
      simp only
      rw [runesFrom_eq s b]
      simp
    · rw [if_neg h, if_neg h]; simp
theorem runesOf_size (s : ByteArray) : (Conv.runesFrom s s.size 0 #[]).size = (runesOf s).length := by
  rw [runesFrom_eq]; simp [runesOf]
theorem runesAt_length (s : ByteArray) : ∀ b i, (runesAt s b i).length ≤ b
  | 0, _ => by simp [runesAt]
  | b + 1, i => by
    unfold runesAt
    split
    · have := runesAt_length s b (i + (Utf8.decode s i).2); simp; omega
    · simp
theorem runesOf_length (s : ByteArray) : (runesOf s).length ≤ s.size := runesAt_length s _ _
section
variable {P : Program} {ops : Array Oper} {rest : List Oper} {o : Oper} {a : Act} {Q : Exit → Act → World → Prop}
end
end Go.Proofs.YtdinikcfhpfojaaDoor.R
