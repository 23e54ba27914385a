/- (No row is turned.) What stays behind a step over readline's buffer: all blocks but the buffer's own, and rows of code points; a row of code points of the call's own; no condition. -/
import Derived.Test.YtdinikcfhpfojaaDoorQHRec
import Derived.Deep.AppendLies
import Derived.Deep.RegionLaw
import Derived.BigRegion
namespace Go.Proofs.YtdinikcfhpfojaaDoor.G
open Go.RowKit Go.Proofs.YtdinikcfhpfojaaDoor.H Go.Proofs.YtdinikcfhpfojaaDoorW.PrintWords Go.Proofs.YtdinikcfhpfojaaDoorW.PrintLast Go.Proofs.YtdinikcfhpfojaaDoor.R
set_option linter.unusedVariables false
set_option linter.unusedSimpArgs false
/-- Block k holds code points. -/
def IsRow (w : World) (k : Nat) : Prop := ∃ cs, w.heap[k]? = some (.cells cs 21 (0, 0))
/-- Below B nothing is turned; above it only the blocks X. -/
def Fr (B : Nat) (X : Nat → Prop) (w w' : World) : Prop := Below B w w' ∧ ∀ k, k < w.heap.size → ¬ X k → w'.heap[k]? = w.heap[k]?
section
variable {B : Nat} {X Y : Nat → Prop} {w w1 w2 : World} {b : Nat} {v u : Value} {t : TypeId} {l : List Value}
theorem Fr.refl (B : Nat) (X : Nat → Prop) (w : World) : Fr B X w w := ⟨Below.refl _ _, fun _ _ _ => rfl⟩
theorem Fr.trans (h : Fr B X w w1) (k : Fr B X w1 w2) : Fr B X w w2 :=
  ⟨h.1.trans k.1, fun i hi hx => (k.2 i (Nat.lt_of_lt_of_le hi h.1.size) hx).trans (h.2 i hi hx)⟩
theorem Fr.alloc (h : Fr B X w w1) (hB : B ≤ w1.heap.size) (o : Obj) : Fr B X w (w1.alloc o) :=
  ⟨h.1.alloc hB o, fun i hi hx => (Below.heap_alloc w1 o i (Nat.lt_of_lt_of_le hi h.1.size)).trans (h.2 i hi hx)⟩
theorem Fr.drew (h : Fr B X w w1) : Fr B X w w1.drew := ⟨h.1.drew, h.2⟩
theorem Fr.drewN (h : Fr B X w w1) (n : Nat) : Fr B X w (w1.drewN n) := ⟨pw_below_drewN h.1 n, h.2⟩
theorem Fr.set (h : Fr B X w w1) (hb : X b ∨ w.heap.size ≤ b) (hB : B ≤ b) (i : Nat) (u : Value) : Fr B X w (w1.setCell ⟨b, i, none⟩ u) :=
  ⟨h.1.setCell hB u, fun k hk hx => (Below.heap_setCell w1 ⟨b, i, none⟩ u k (by
    rintro rfl
    rcases hb with hb | hb
    · exact hx hb
    · exact absurd hk (Nat.not_lt.2 hb))).trans (h.2 k hk hx)⟩
/-- Behind an append onto a row that is new. -/
theorem Fr.grown (h : Fr B X w w1) {row : Option Nat} (hg : w1.grownBy w2 row) (hr : ∀ k, row = some k → w.heap.size ≤ k ∧ B ≤ k) (hB : B ≤ w1.heap.size) : Fr B X w w2 :=
  ⟨⟨hg.os.trans h.1.os, hg.tape.trans h.1.tape, hg.output.trans h.1.output, Nat.le_trans h.1.size hg.size, fun k hk => (hg.block k (Nat.lt_of_lt_of_le hk hB) (fun e => by have := (hr k e.symm).2; omega)).trans (h.1.block k hk)⟩,
    fun k hk hx => (hg.block k (Nat.lt_of_lt_of_le hk h.1.size) (fun e => by have := (hr k e.symm).1; omega)).trans (h.2 k hk hx)⟩
theorem Fr.of_below (h : Below w.heap.size w w1) (hB : B ≤ w.heap.size) : Fr B X w w1 := ⟨h.mono hB, fun k hk _ => h.block k hk⟩
/-- Blocks that the call has made need not be named. -/
theorem Fr.narrow (h0 : Below w.heap.size w w1) (h : Fr B X w1 w2) (hB : B ≤ w.heap.size) (hX : ∀ k, k < w.heap.size → X k → Y k) : Fr B Y w w2 :=
  ⟨(h0.mono hB).trans h.1, fun k hk hy => (h.2 k (Nat.lt_of_lt_of_le hk h0.size) (fun hx => hy (hX k hk hx))).trans (h0.block k hk)⟩
theorem Fr.one (h : Fr B X w w1) (ho : One w b v t) (ht : t ≠ 21) (hx : ¬ X b) : One w1 b v t := (h.2 b ho.lt hx).trans ho
theorem Fr.rec (h : Fr B X w w1) (ho : Rec w b l t) (ht : t ≠ 21) (hx : ¬ X b) : Rec w1 b l t := (h.2 b ho.lt hx).trans ho
/-- Value v is a row of code points of the call's own. -/
def Own (w : World) (B : Nat) (v : Value) (xs : List Int) : Prop := w.ownsRow B 21 1 v xs.length (xs.map (Value.int .i32))
variable {xs ys : List Int}
theorem Own.form (h : Own w B v xs) : ∃ A c, v = .slice A xs.length c ∧ xs.length ≤ c ∧ c ≤ maxLen ∧ ((A = none ∧ xs = [] ∧ c = 0) ∨ ∃ g, A = some ⟨g, 0, none⟩ ∧ IsRow w g ∧ B ≤ g ∧ ∀ j, j < xs.length → w.cell? ⟨g, j, none⟩ = some (.int .i32 (xs.getD j 0))) := by
  rcases h.2 with ⟨rfl, hn⟩ | ⟨g, cap, cur, rfl, hb, hh, hnc, hm, hs, hx⟩
  · have : xs = [] := List.eq_nil_of_length_eq_zero hn
    subst this
    exact ⟨none, 0, rfl, Nat.le_refl _, by unfold maxLen; omega, .inl ⟨rfl, rfl, rfl⟩⟩
  · refine ⟨_, cap, rfl, hnc, hm, .inr ⟨g, rfl, ⟨cur, hh⟩, hb, fun j hj => ?_⟩⟩
    have := World.ownsRow.cells h (g := g) (by simp [Value.ownBlock]) j (.int .i32 (xs.getD j 0)) (by simp [List.getElem?_eq_getElem hj, List.getD])
    rwa [show (⟨g, 0, none⟩ : Addr).add j = ⟨g, j, none⟩ by unfold Addr.add; split <;> simp_all] at this
theorem Own.row (h : Own w B v xs) : ∀ k, v.ownBlock = some k → IsRow w k ∧ B ≤ k := by
  intro k hk
  rcases h.2 with ⟨rfl, _⟩ | ⟨g, cap, cur, rfl, hb, hh, _⟩
  · simp [Value.ownBlock] at hk
  · have : g = k := by simpa [Value.ownBlock] using hk
    subst this
    exact ⟨⟨cur, hh⟩, hb⟩
theorem Own.lt (h : Own w B v xs) : ∀ k, v.ownBlock = some k → k < w.heap.size := fun k hk => by
  obtain ⟨cs, e⟩ := (h.row k hk).1
  exact lt_of_block e
theorem Own.move (h : Own w B v xs) (hk : ∀ k, v.ownBlock = some k → w1.heap[k]? = w.heap[k]?) : Own w1 B v xs := own_move h hk
theorem Own.nil (w : World) (B : Nat) : Own w B (.slice none 0 0) [] := World.ownsRow_nil w B 21 1
theorem Own.alloc (h : Own w B v xs) (o : Obj) : Own (w.alloc o) B v xs := h.move fun k hk => Below.heap_alloc w o k (h.lt k hk)
theorem Own.drew (h : Own w B v xs) : Own w.drew B v xs := h
theorem Own.drewN (h : Own w B v xs) (n : Nat) : Own (w.drewN n) B v xs := h
theorem Own.below (h : Own w B v xs) (hb : Below w.heap.size w w1) : Own w1 B v xs := h.move fun k hk => hb.block k (h.lt k hk)
theorem IsRow.ne_rec (h : IsRow w b) {g : Nat} (hr : Rec w g l t) (ht : t ≠ 21) : b ≠ g := by
  rintro rfl
  obtain ⟨cs, e⟩ := h
  rw [show w.heap[b]? = _ from hr] at e
  injection e with e
  injection e with _ e
  exact ht e
theorem Own.set (h : Own w B v xs) {g : Nat} (hr : Rec w g l t) (ht : t ≠ 21) (i : Nat) (u : Value) : Own (w.setCell ⟨g, i, none⟩ u) B v xs :=
  h.move fun k hk => Below.heap_setCell w ⟨g, i, none⟩ u k ((h.row k hk).1.ne_rec hr ht)
theorem Own.set_one (h : Own w B v xs) {g : Nat} {x : Value} (hr : One w g x t) (ht : t ≠ 21) (u : Value) : Own (w.setCell ⟨g, 0, none⟩ u) B v xs := h.set hr.rec ht 0 u
theorem Own.grown (h : Own w B v xs) {row : Option Nat} (hg : w.grownBy w1 row) (hne : ∀ k, v.ownBlock = some k → some k ≠ row) : Own w1 B v xs := h.move fun k hk => hg.block k (h.lt k hk) (hne k hk)
end
end Go.Proofs.YtdinikcfhpfojaaDoor.G
