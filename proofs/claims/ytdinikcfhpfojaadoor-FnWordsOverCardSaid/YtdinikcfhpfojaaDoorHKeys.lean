/- The steps of editing a line of readline's buffer, as plain functions on its code points, its cursor and what was taken out last; no condition. -/
import Derived.Test.YtdinikcfhpfojaaDoorXRunes
namespace Go.Proofs.YtdinikcfhpfojaaDoor.H
set_option linter.unusedVariables false

/-- Letters and digits. -/
def wsign (c : Int) : Bool := (decide (97 ≤ c) && decide (c ≤ 122)) || (decide (65 ≤ c) && decide (c ≤ 90)) || (decide (48 ≤ c) && decide (c ≤ 57))
/-- A word begins at place i. -/
def begs (l : List Int) (i : Nat) : Bool := wsign (l.getD i 0) && !wsign (l.getD (i - 1) 0)
def prevW (l : List Int) : Nat → Nat
  | 0 => 0
  | i + 1 => if begs l (i + 1) then i + 1 else prevW l i
def nextW (l : List Int) : Nat → Nat → Nat
  | 0, _ => l.length
  | d + 1, i => if begs l i then i else nextW l d (i + 1)
def endW (l : List Int) : Nat → Nat → Nat
  | 0, _ => l.length
  | d + 1, i => if wsign (l.getD (i - 1) 0) && !wsign (l.getD i 0) then i - 1 else endW l d (i + 1)
def findF (l : List Int) (c : Int) : Nat → Nat → Option Nat
  | 0, _ => none
  | d + 1, i => if l.getD i 0 = c then some i else findF l c d (i + 1)
def findB (l : List Int) (c : Int) : Nat → Option Nat
  | 0 => none
  | i + 1 => if l.getD i 0 = c then some i else findB l c i
structure KS where
  buf : List Int
  idx : Nat
  kill : List Int
structure Ky where
  op : Int
  text : List Int
  n : Int
  flag : Bool
  back : Bool
def kmove (s : KS) (c : Int) (flag back : Bool) : KS × Int :=
  if back then (match findB s.buf c s.idx with | some i => ({ s with idx := if flag then i + 1 else i }, 1) | none => (s, 0))
  else (match findF s.buf c (s.buf.length - (s.idx + 1)) (s.idx + 1) with | some i => ({ s with idx := if flag then i - 1 else i }, 1) | none => (s, 0))
def kstep (s : KS) (k : Ky) : Option (KS × Int) :=
  if k.op = 2 then some ({ s with idx := if s.idx = s.buf.length then s.idx else s.idx + 1 }, -1)
  else if k.op = 3 then some ({ s with idx := s.idx - 1 }, -1)
  else if k.op = 4 then some ({ s with idx := 0 }, -1)
  else if k.op = 5 then some ({ s with idx := s.buf.length }, -1)
  else if k.op = 8 then (if s.idx < s.buf.length then some ({ s with buf := s.buf.set s.idx k.n }, -1) else none)
  else if k.op = 9 then some (⟨[], 0, s.buf⟩, -1)
  else if k.op = 10 then some ({ s with idx := prevW s.buf (s.idx - 1) }, if s.idx = 0 then 0 else 1)
  else if k.op = 11 then some ({ s with idx := nextW s.buf (s.buf.length - (s.idx + 1)) (s.idx + 1) }, -1)
  else if k.op = 12 then
    (if s.idx = s.buf.length then some (s, -1)
     else if wsign (s.buf.getD s.idx 0) then (if s.idx + 1 < s.buf.length then some ({ s with idx := endW s.buf (s.buf.length - (if wsign (s.buf.getD (s.idx + 1) 0) then s.idx + 1 else s.idx + 2)) (if wsign (s.buf.getD (s.idx + 1) 0) then s.idx + 1 else s.idx + 2) }, -1) else none)
     else some ({ s with idx := endW s.buf (s.buf.length - (s.idx + 1)) (s.idx + 1) }, -1))
  else if k.op = 14 then
    (if s.idx = 0 then some (s, -1)
     else if prevW s.buf (s.idx - 1) = 0 then some (⟨[], 0, s.kill⟩, -1)
     else some (⟨s.buf.take (prevW s.buf (s.idx - 1)) ++ s.buf.drop s.idx, prevW s.buf (s.idx - 1), (s.buf.take s.idx).drop (prevW s.buf (s.idx - 1))⟩, -1))
  else if k.op = 15 then some (⟨s.buf.take s.idx, s.idx, s.buf.drop s.idx⟩, -1)
  else if k.op = 18 then none
  else if k.op = 17 then some (if s.kill.length = 0 then s else ⟨s.buf.take s.idx ++ s.kill ++ s.buf.drop s.idx, s.idx + s.kill.length, s.kill⟩, -1)
  else if k.op = 19 then some (kmove s k.n k.flag k.back)
  else if k.op = 20 then (if 0 ≤ k.n ∧ k.n ≤ k.text.length then some (⟨k.text, k.n.toNat, s.kill⟩, -1) else none)
  else none
end Go.Proofs.YtdinikcfhpfojaaDoor.H
