/- What a completer of words offers of a line (readline's doInternal): the plain reference of the walk; no condition. -/
import Derived.Test.YthbdaoapjnofkaaDoorQXPure
import Derived.Lib.Latin
namespace Go.Proofs.YthbdaoapjnofkaaDoor.H
open Go.RowKit Go.Proofs.YthbdaoapjnofkaaDoorW.PrintWords Go.Proofs.YthbdaoapjnofkaaDoor.R Go.Proofs.YthbdaoapjnofkaaDoor.X
set_option linter.unusedVariables false
/-- A completer: whether a function tells its words, the words (each with a blank behind), and the completers beneath it. -/
inductive Tr where
  | node (dyn : Bool) (names : List (List Int)) (kids : List Tr)
def Tr.names : Tr → List (List Int) | .node _ n _ => n
def Tr.kids : Tr → List Tr | .node _ _ k => k
def Tr.dyn : Tr → Bool | .node d _ _ => d
/-- Behind some words: what is offered, how much of the line is taken, the completer of the last word that fits, and whether a word is whole. -/
structure Cs where
  nl : List (List Int)
  off : Nat
  cur : Option Tr
  gn : Bool
def oneName (line : List Int) (c : Tr) (s : Cs) (nm : List Int) : Cs :=
  if nm.length ≤ line.length then
    if line.take nm.length = nm then ⟨s.nl ++ [if line.length = nm.length then [32] else nm], nm.length, some c, true⟩ else s
  else if nm.take line.length = line then ⟨s.nl ++ [nm.drop line.length], line.length, some c, s.gn⟩ else s
def oneKid (line : List Int) (s : Cs) (c : Tr) : Cs := c.names.foldl (oneName line c) s
def isSp (x : Int) : Bool := Lib.isSpaceL x
def comp : Nat → Tr → List Int → List (List Int) × Nat
  | 0, _, _ => ([], 0)
  | d + 1, t, l =>
    let line := l.dropWhile isSp
    let s := t.kids.foldl (oneKid line) ⟨[], 0, none, false⟩
    if s.nl.length ≠ 1 then (s.nl, s.off)
    else match s.cur with
      | none => (s.nl, s.off)
      | some c =>
        match (line.drop s.off).dropWhile (fun x => decide (x = 32)) with
        | x :: r => comp d c (x :: r)
        | [] => if s.gn then comp d c [] else (s.nl, s.off)
/-- What holds behind some words: as much of the line is taken as there is, and one word that fits has a completer. -/
structure Csok (line : List Int) (K : List Tr) (s : Cs) : Prop where
  off : s.off ≤ line.length
  cur : ∀ c, s.cur = some c → c ∈ K
  one : s.nl.length ≠ 0 → ∃ c, s.cur = some c
theorem Csok.name {line : List Int} {K : List Tr} {s : Cs} (h : Csok line K s) {c : Tr} (hc : c ∈ K) (nm : List Int) : Csok line K (oneName line c s nm) := by
  unfold oneName
  split
  · split
    · exact ⟨by assumption, fun x hx => by cases hx; exact hc, fun _ => ⟨c, rfl⟩⟩
    · exact h
  · split
    · exact ⟨Nat.le_refl _, fun x hx => by cases hx; exact hc, fun _ => ⟨c, rfl⟩⟩
    · exact h
theorem Csok.names {line : List Int} {K : List Tr} {c : Tr} (hc : c ∈ K) : ∀ (l : List (List Int)) {s : Cs}, Csok line K s → Csok line K (l.foldl (oneName line c) s)
  | [], _, h => h
  | nm :: l, _, h => Csok.names hc l (h.name hc nm)
theorem Csok.kids {line : List Int} {K : List Tr} : ∀ (l : List Tr), (∀ c ∈ l, c ∈ K) → ∀ {s : Cs}, Csok line K s → Csok line K (l.foldl (oneKid line) s)
  | [], _, _, h => h
  | c :: l, hl, _, h => Csok.kids l (fun x hx => hl x (by simp [hx])) (Csok.names (hl c (by simp)) c.names h)
theorem Csok.start (line : List Int) (K : List Tr) : Csok line K ⟨[], 0, none, false⟩ := ⟨Nat.zero_le _, fun _ h => by simp at h, fun h => absurd rfl h⟩
/-- Every word of the tree is small signs or blanks of ASCII: at most so many. -/
inductive Tok : Nat → Tr → Prop where
  | mk (d : Nat) (dyn : Bool) (names : List (List Int)) (kids : List Tr) (hn : ∀ l ∈ names, l.length ≤ 1000000 ∧ ∀ x ∈ l, 0 ≤ x ∧ x < 128) (hk : ∀ t ∈ kids, Tok d t) : Tok (d + 1) (.node dyn names kids)
end Go.Proofs.YthbdaoapjnofkaaDoor.H
