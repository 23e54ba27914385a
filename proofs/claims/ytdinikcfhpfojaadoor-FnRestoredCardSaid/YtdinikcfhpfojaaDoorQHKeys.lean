/- The steps of editing a line of readline's buffer, as plain functions on its code points, its cursor and what was taken out last; no condition. -/
import Derived.Test.YtdinikcfhpfojaaDoorQXRunes
namespace Go.Proofs.YtdinikcfhpfojaaDoor.H
set_option linter.unusedVariables false
/-- Letters and digits. -/
def wsign (c : Int) : Bool := (decide (97 ≤ c) && decide (c ≤ 122)) || (decide (65 ≤ c) && decide (c ≤ 90)) || (decide (48 ≤ c) && decide (c ≤ 57))
/-- A word begins at place i. -/
def begs (l : List Int) (i : Nat) : Bool := wsign (l.getD i 0) && !wsign (l.getD (i - 1) 0)
def prevW (l : List Int) : Nat → Nat
  | 0 => 0
  | i + 1 => if begs l (i + 1) then i + 1 else prevW l i
def nextW (l : List Int) : Nat → Nat → Nat
  | 0, _ => l.length
  | d + 1, i => if begs l i then i else nextW l d (i + 1)
structure KS where
  buf : List Int
  idx : Nat
  kill : List Int
structure Ky where
  op : Int
  text : List Int
  n : Int
  flag : Bool
  back : Bool
end Go.Proofs.YtdinikcfhpfojaaDoor.H
