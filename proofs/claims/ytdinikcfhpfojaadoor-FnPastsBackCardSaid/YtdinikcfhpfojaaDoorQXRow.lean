/- A law's parameter that is a slice of any elements, opened to a row as the printed walks read it; no condition. -/
import Derived.Test.YtdinikcfhpfojaaDoorQWAll
import Derived.Deep.Slices
import Derived.ChangeArms
import Derived.DataReads
namespace Go.Proofs.YtdinikcfhpfojaaDoor.X
open Go.RowKit Go.Deep Go.Proofs.YtdinikcfhpfojaaDoorW.PrintWords
set_option linter.unusedVariables false
section
variable {H : Type} {enc : TypeId × Value → H} {P : Program} {w : World} {base : Nat} {sp : Nat → Bool} {held : Bool}
theorem list_of {α : Type} {Q : Nat → α → Prop} : ∀ n, (∀ i, i < n → ∃ x, Q i x) → ∃ l : List α, l.length = n ∧ ∀ i p, l[i]? = some p → Q i p
  | 0, _ => ⟨[], rfl, fun i p h => by simp at h⟩
  | n + 1, h => by
    obtain ⟨l, hl, hq⟩ := list_of n (fun i hi => h i (by omega))
    obtain ⟨x, hx⟩ := h n (by omega)
    refine ⟨l ++ [x], by simp [hl], fun i p hp => ?_⟩
    by_cases hi : i < l.length
    · rw [List.getElem?_append_left hi] at hp; exact hq i p hp
    · rw [List.getElem?_append_right (by omega)] at hp
      have h0 : i - l.length = 0 := by
        rcases Nat.eq_zero_or_pos (i - l.length) with h0 | h0
        · exact h0
        · rw [List.getElem?_eq_none (by simp; omega)] at hp; cases hp
      rw [h0] at hp
      simp at hp
      subst hp
      rwa [show i = n by omega]
theorem open_krow {α : Type} (kd : Kd α) (good : α → Prop) {t e : TypeId} {a : Option Addr} {len cap : Nat} {d : DataW H} {ps : List MemPlace} (ht : P.underlying t = some (.slice e)) (hsz : P.cellsOf e = kd.sz)
    (hel : ∀ (cs : List Value) y n, DataW.trod enc P w base sp held n e cs = some y → ∃ x, good x ∧ kd.K w x cs) (h : DataW.Trod enc P w base sp held t (.slice a len cap) d ps) :
    ∃ l : List α, len = l.length ∧ kd.C w a l.length l ∧ l.length ≤ cap ∧ l.length ≤ maxLen ∧ ∀ x ∈ l, good x := by
  obtain ⟨fuel, hf⟩ := h
  rcases open_slice ht hf with ⟨hcs, _⟩ | ⟨a', len', cap', m, n, D, Pl, hcs, hb, hl, hm, hmm, hx, hi⟩
  · simp [Value.cells] at hcs
    obtain ⟨rfl, rfl, rfl⟩ := hcs
    exact ⟨[], rfl, ⟨rfl, by simp, fun h => by simp at h⟩, by simp, by simp, by simp⟩
  · simp [Value.cells] at hcs
    obtain ⟨rfl, rfl, rfl⟩ := hcs
    have hlm : len ≤ m := by rw [hmm]; split <;> omega
    obtain ⟨l, hll, hq⟩ := list_of (Q := fun i x => good x ∧ ∃ c, c.length = kd.sz ∧ kd.K w x c ∧ ∀ j u, c[j]? = some u → w.cell? (a'.add (i * kd.sz + j)) = some u) len fun i hi' => by
      obtain ⟨cs', h1, h2⟩ := hi i (by omega)
      obtain ⟨_, hcl, hat⟩ := World.cells?_some h1
      obtain ⟨x, hg, hk⟩ := hel cs' _ _ h2
      rw [hsz] at hcl hat
      refine ⟨x, hg, cs', hcl, hk, fun j u hu => ?_⟩
      have hj : j < kd.sz := by rw [← hcl]; exact (List.getElem?_eq_some_iff.1 hu).1
      rw [← Go.Deep.add_add, hat j hj, hu]
    subst hll
    refine ⟨l, rfl, ⟨rfl, by have := hm; unfold maxLen at this; omega, fun _ => ⟨a', rfl, fun j p hp => (hq j p hp).2⟩⟩, hl, by omega, fun x hx => ?_⟩
    obtain ⟨i, hi', rfl⟩ := List.getElem_of_mem hx
    exact (hq i _ (List.getElem?_eq_getElem hi')).1
/-- The elements: texts, numbers, bools. -/
theorem el_string {e : TypeId} (he : P.underlying e = some .string) (cs : List Value) (y : DataW H × List MemPlace) (n : Nat) (h : DataW.trod enc P w base sp held n e cs = some y) : ∃ x : ByteArray, x.size ≤ maxLen ∧ Kd.string.K w x cs := by
  obtain ⟨s, rfl, _, hs⟩ := DataW.trod_string he h
  exact ⟨s, hs, rfl⟩
end
end Go.Proofs.YtdinikcfhpfojaaDoor.X
