/- The steps over readline's buffer as rules for the pure proofs: what a row of steps makes, step by step; no condition but bounds. -/
import Derived.Test.YtdinikcfhpfojaaDoorQHAfter
import Derived.Test.YtdinikcfhpfojaaDoorQXPure
namespace Go.Proofs.YtdinikcfhpfojaaDoor.H
open Go.RowKit Go.Proofs.YtdinikcfhpfojaaDoor.R Go.Proofs.YtdinikcfhpfojaaDoor.X
set_option linter.unusedVariables false
theorem krun_cons {s : KS} {k : Key5} {l : List Key5} {p : KS × Int} {q : KS × List Int} (h : step5 s k = some p) (h2 : krun p.1 l = some q) : krun s (k :: l) = some (q.1, p.2 :: q.2) := by
  simp only [krun, h, Option.bind_some, h2]
theorem krun_nil (s : KS) : krun s [] = some (s, []) := rfl
/-- The bounds that all steps ask. -/
def KOk (s : KS) (t : ByteArray) (n : Int) : Prop := s.ok ∧ t.size ≤ 1000000 ∧ 0 ≤ n ∧ n ≤ 1114111
section
variable {s : KS} {t : ByteArray} {n : Int} {f b : Bool} (h : KOk s t n)
include h
theorem step_10 : step5 s ⟨10, t, n, f, b⟩ = some ({ s with idx := prevW s.buf (s.idx - 1) }, if 0 < s.idx then 1 else 0) := by unfold step5; dsimp only; rw [if_pos (show s.ok ∧ t.size ≤ 1000000 ∧ 0 ≤ n ∧ n ≤ 1114111 from h)]; rfl
theorem step_11 : step5 s ⟨11, t, n, f, b⟩ = some ({ s with idx := nextW s.buf (s.buf.length - (s.idx + 1)) (s.idx + 1) }, -1) := by unfold step5; dsimp only; rw [if_pos (show s.ok ∧ t.size ≤ 1000000 ∧ 0 ≤ n ∧ n ≤ 1114111 from h)]; rfl
theorem step_12 (hi : s.idx < s.buf.length → wsign (s.buf.getD s.idx 0) = true → s.idx + 1 < s.buf.length) : step5 s ⟨12, t, n, f, b⟩ = some (kendw s, -1) := by unfold step5; dsimp only; rw [if_pos (show s.ok ∧ t.size ≤ 1000000 ∧ 0 ≤ n ∧ n ≤ 1114111 from h)]; exact if_pos hi
theorem step_14 (hi : 0 < prevW s.buf (s.idx - 1) ∧ prevW s.buf (s.idx - 1) < s.idx) : step5 s ⟨14, t, n, f, b⟩ = some (kback s (prevW s.buf (s.idx - 1)), -1) := by unfold step5; dsimp only; rw [if_pos (show s.ok ∧ t.size ≤ 1000000 ∧ 0 ≤ n ∧ n ≤ 1114111 from h)]; exact if_pos hi
theorem step_20 (hn : n ≤ (runesOf t).length) : step5 s ⟨20, t, n, f, b⟩ = some (⟨runesOf t, n.toNat, s.kill⟩, -1) := by unfold step5; dsimp only; rw [if_pos (show s.ok ∧ t.size ≤ 1000000 ∧ 0 ≤ n ∧ n ≤ 1114111 from h)]; exact if_pos hn
end
end Go.Proofs.YtdinikcfhpfojaaDoor.H
