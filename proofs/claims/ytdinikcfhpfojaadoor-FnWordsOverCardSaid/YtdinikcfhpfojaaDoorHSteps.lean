/- The steps over readline's buffer as rules for the pure proofs: what a row of steps makes, step by step; no condition but bounds. -/
import Derived.Test.YtdinikcfhpfojaaDoorHAfter
import Derived.Test.YtdinikcfhpfojaaDoorXPure
namespace Go.Proofs.YtdinikcfhpfojaaDoor.H
open Go.RowKit Go.Proofs.YtdinikcfhpfojaaDoor.R Go.Proofs.YtdinikcfhpfojaaDoor.X
set_option linter.unusedVariables false

theorem krun_cons {s : KS} {k : Key5} {l : List Key5} {p : KS × Int} {q : KS × List Int} (h : step5 s k = some p) (h2 : krun p.1 l = some q) : krun s (k :: l) = some (q.1, p.2 :: q.2) := by
  simp only [krun, h, Option.bind_some, h2]
theorem krun_nil (s : KS) : krun s [] = some (s, []) := rfl
/-- The bounds that all steps ask. -/
def KOk (s : KS) (t : ByteArray) (n : Int) : Prop := s.ok ∧ t.size ≤ 1000000 ∧ 0 ≤ n ∧ n ≤ 1114111
section
variable {s : KS} {t : ByteArray} {n : Int} {f b : Bool} (h : KOk s t n)
include h
theorem step_2 : step5 s ⟨2, t, n, f, b⟩ = some (kfwd s, -1) := by unfold step5; dsimp only; rw [if_pos (show s.ok ∧ t.size ≤ 1000000 ∧ 0 ≤ n ∧ n ≤ 1114111 from h)]; rfl
theorem step_3 : step5 s ⟨3, t, n, f, b⟩ = some ({ s with idx := s.idx - 1 }, -1) := by unfold step5; dsimp only; rw [if_pos (show s.ok ∧ t.size ≤ 1000000 ∧ 0 ≤ n ∧ n ≤ 1114111 from h)]; rfl
theorem step_4 : step5 s ⟨4, t, n, f, b⟩ = some ({ s with idx := 0 }, -1) := by unfold step5; dsimp only; rw [if_pos (show s.ok ∧ t.size ≤ 1000000 ∧ 0 ≤ n ∧ n ≤ 1114111 from h)]; rfl
theorem step_5 : step5 s ⟨5, t, n, f, b⟩ = some ({ s with idx := s.buf.length }, -1) := by unfold step5; dsimp only; rw [if_pos (show s.ok ∧ t.size ≤ 1000000 ∧ 0 ≤ n ∧ n ≤ 1114111 from h)]; rfl
theorem step_8 (hi : s.idx < s.buf.length) : step5 s ⟨8, t, n, f, b⟩ = some (⟨s.buf.set s.idx n, s.idx, s.kill⟩, -1) := by unfold step5; dsimp only; rw [if_pos (show s.ok ∧ t.size ≤ 1000000 ∧ 0 ≤ n ∧ n ≤ 1114111 from h)]; exact if_pos hi
theorem step_9 : step5 s ⟨9, t, n, f, b⟩ = some (⟨[], 0, s.buf⟩, -1) := by unfold step5; dsimp only; rw [if_pos (show s.ok ∧ t.size ≤ 1000000 ∧ 0 ≤ n ∧ n ≤ 1114111 from h)]; rfl
theorem step_10 : step5 s ⟨10, t, n, f, b⟩ = some ({ s with idx := prevW s.buf (s.idx - 1) }, if 0 < s.idx then 1 else 0) := by unfold step5; dsimp only; rw [if_pos (show s.ok ∧ t.size ≤ 1000000 ∧ 0 ≤ n ∧ n ≤ 1114111 from h)]; rfl
theorem step_11 : step5 s ⟨11, t, n, f, b⟩ = some ({ s with idx := nextW s.buf (s.buf.length - (s.idx + 1)) (s.idx + 1) }, -1) := by unfold step5; dsimp only; rw [if_pos (show s.ok ∧ t.size ≤ 1000000 ∧ 0 ≤ n ∧ n ≤ 1114111 from h)]; rfl
theorem step_12 (hi : s.idx < s.buf.length → wsign (s.buf.getD s.idx 0) = true → s.idx + 1 < s.buf.length) : step5 s ⟨12, t, n, f, b⟩ = some (kendw s, -1) := by unfold step5; dsimp only; rw [if_pos (show s.ok ∧ t.size ≤ 1000000 ∧ 0 ≤ n ∧ n ≤ 1114111 from h)]; exact if_pos hi
theorem step_15 : step5 s ⟨15, t, n, f, b⟩ = some (⟨s.buf.take s.idx, s.idx, s.buf.drop s.idx⟩, -1) := by unfold step5; dsimp only; rw [if_pos (show s.ok ∧ t.size ≤ 1000000 ∧ 0 ≤ n ∧ n ≤ 1114111 from h)]; rfl
theorem step_17 : step5 s ⟨17, t, n, f, b⟩ = some (kyank s, -1) := by unfold step5; dsimp only; rw [if_pos (show s.ok ∧ t.size ≤ 1000000 ∧ 0 ≤ n ∧ n ≤ 1114111 from h)]; rfl
theorem step_19 : step5 s ⟨19, t, n, f, b⟩ = some ((kmove s n f b).1, if (kmove s n f b).2 = 1 then 1 else 0) := by unfold step5; dsimp only; rw [if_pos (show s.ok ∧ t.size ≤ 1000000 ∧ 0 ≤ n ∧ n ≤ 1114111 from h)]; rfl
theorem step_20 (hn : n ≤ (runesOf t).length) : step5 s ⟨20, t, n, f, b⟩ = some (⟨runesOf t, n.toNat, s.kill⟩, -1) := by unfold step5; dsimp only; rw [if_pos (show s.ok ∧ t.size ≤ 1000000 ∧ 0 ≤ n ∧ n ≤ 1114111 from h)]; exact if_pos hn
end
theorem after_tells {t : ByteArray} {i : Nat} {l : List Key5} {s : KS} {ts : List Int} (hl : l.length ≤ 100000) (ha : Asc t) (ht : t.size ≤ 1000000) (hi : i ≤ t.size) (hr : krun ⟨ints t, i, []⟩ l = some (s, ts)) (hs : s.buf.length ≤ 1000000000) : afterF t (i : Int) l = some (runesBytes s.buf, (s.idx : Int), true) := by
  have h0 : step5 ⟨[], 0, []⟩ ⟨20, t, (i : Int), false, false⟩ = some (⟨ints t, i, []⟩, -1) := by
    rw [step_20 ⟨by unfold KS.ok; simp, ht, by omega, by omega⟩ (by rw [runesOf_asc ha, ints_length]; omega), runesOf_asc ha, Int.toNat_natCast]
  unfold afterF
  rw [if_pos hl, krun_cons h0 hr]
  exact if_pos hs
end Go.Proofs.YtdinikcfhpfojaaDoor.H
