/- Rows of texts, and a slice of them that grows; no condition. -/
import Derived.Test.YthbdaoapjnofkaaDoorQHCopy
import Derived.Test.YthbdaoapjnofkaaDoorQHAggP
namespace Go.Proofs.YthbdaoapjnofkaaDoor.H
open Go.RowKit Go.Proofs.YthbdaoapjnofkaaDoorW.PrintWords Go.Proofs.YthbdaoapjnofkaaDoorW.PrintLast Go.Proofs.YthbdaoapjnofkaaDoor.R
set_option linter.unusedVariables false
set_option linter.unusedSimpArgs false
/-- A slice of rows of code points. -/
def RR (w : World) (g : Nat) (xs : List (List Int)) : Prop := ∀ (j : Nat) (l : List Int), xs[j]? = some l → ∃ b c, w.cell? ⟨g, j, none⟩ = some (.slice (some ⟨b, 0, none⟩) l.length c) ∧ l.length ≤ c ∧ ∀ k, k < l.length → w.cell? ⟨b, k, none⟩ = some (.int .i32 (l.getD k 0))
theorem block_lt {w : World} {a : Addr} {v : Value} (h : w.cell? a = some v) : a.block < w.heap.size := by
  rcases Nat.lt_or_ge a.block w.heap.size with h2 | h2
  · exact h2
  · unfold World.cell? at h
    rw [Array.getElem?_eq_none h2] at h
    simp at h
/-- The same, the outer row known whole. -/
def RO (w : World) (g : Nat) (L : List Value) (xs : List (List Int)) : Prop := ∀ (j : Nat) (l : List Int), xs[j]? = some l → ∃ b c, L[j]? = some (.slice (some ⟨b, 0, none⟩) l.length c) ∧ l.length ≤ c ∧ b ≠ g ∧ ∀ k, k < l.length → w.cell? ⟨b, k, none⟩ = some (.int .i32 (l.getD k 0))
/-- A row of signs of the call's own. -/
def RowAt (w : World) (B : Nat) (v : Value) (l : List Int) : Prop := ∃ b c cs, v = .slice (some ⟨b, 0, none⟩) l.length c ∧ l.length ≤ c ∧ B ≤ b ∧ w.heap[b]? = some (.cells cs 21 (0, 0)) ∧ ∀ k, k < l.length → w.cell? ⟨b, k, none⟩ = some (.int .i32 (l.getD k 0))
theorem RowAt.move {w w1 : World} {B : Nat} {v : Value} {l : List Int} (h : RowAt w B v l) (hm : ∀ (k : Nat) (cs : Array Value), w.heap[k]? = some (Obj.cells cs 21 (0, 0)) → w1.heap[k]? = w.heap[k]?) : RowAt w1 B v l := by
  obtain ⟨b, c, cs, rfl, hc, hB, hh, hr⟩ := h
  have e := hm b cs hh
  refine ⟨b, c, cs, rfl, hc, hB, e.trans hh, fun k hk => ?_⟩
  rw [← hr k hk]
  unfold World.cell?
  simp only [e]
theorem runeRow (w : World) (l : List Int) (cap B : Nat) (hc : l.length ≤ cap) (hB : B ≤ w.heap.size) : RowAt (w.alloc (.cells (runeCells l cap).toArray 21)) B (.slice (some ⟨w.heap.size, 0, none⟩) l.length cap) l :=
  ⟨w.heap.size, cap, _, rfl, hc, hB, Go.heap_alloc_new w _, fun k hk => (Rec.new w (runeCells l cap) 21).cell k (runeCells_at l cap k hk)⟩
/-- Behind some texts: their rows. -/
structure AS (w0 w : World) (T : Option Addr) (c : Nat) (xs : List (List Int)) (L : List Value) : Prop where
  own : w.ownsRow w0.heap.size 27 1 (.slice T xs.length c) xs.length L
  row : ∀ (j : Nat) (l : List Int), xs[j]? = some l → ∃ v, L[j]? = some v ∧ RowAt w w0.heap.size v l
  below : Below w0.heap.size w0 w
theorem AS.push {w0 w w4 : World} {T T1 : Option Addr} {c c1 : Nat} {xs : List (List Int)} {L : List Value} {l : List Int} {cap : Nat} {t : TypeId} (h : AS w0 w T c xs L) (hc : l.length ≤ cap)
    (hg : ((w.drew.alloc (.cells (runeCells l cap).toArray 21)).alloc (.cells #[.slice (some ⟨w.heap.size, 0, none⟩) l.length cap] t)).grownBy w4 (Value.slice T xs.length c).ownBlock)
    (ho : w4.ownsRow w0.heap.size 27 1 (.slice T1 (xs.length + 1) c1) (xs.length + 1) (L ++ [.slice (some ⟨w.heap.size, 0, none⟩) l.length cap])) : AS w0 w4 T1 c1 (xs ++ [l]) (L ++ [.slice (some ⟨w.heap.size, 0, none⟩) l.length cap]) := by
  have hLl : L.length = xs.length := by have := h.own.1; omega
  have hb2 : Below w0.heap.size w0 ((w.drew.alloc (.cells (runeCells l cap).toArray 21)).alloc (.cells #[.slice (some ⟨w.heap.size, 0, none⟩) l.length cap] t)) :=
    ((below_drew h.below).alloc h.below.size _).alloc (by have := h.below.size; simp; omega) _
  have hbl : ∀ k, (Value.slice T xs.length c).ownBlock = some k → w0.heap.size ≤ k ∧ ∃ cs, w.heap[k]? = some (.cells cs 27 (0, 0)) := fun k hk => ⟨(World.ownsRow.lt h.own k hk).1, own_typed h.own k hk⟩
  refine ⟨by simpa using ho, fun j l' hj => ?_, hb2.grown hg (by have := h.below.size; simp; omega) (fun k hk => (hbl k hk).1)⟩
  have hrow := runeRow w.drew l cap w0.heap.size hc h.below.size
  rcases Nat.lt_or_ge j xs.length with hlt | hge
  · rw [List.getElem?_append_left hlt] at hj
    obtain ⟨v, hv, hr⟩ := h.row j l' hj
    refine ⟨v, by rw [List.getElem?_append_left (by omega)]; exact hv, hr.move fun k cs hk => ?_⟩
    have hks : k < w.heap.size := lt_of_block hk
    refine (hg.block k (by simp; omega) (fun e => ?_)).trans (((Below.heap_alloc (w.drew.alloc _) _ k (by simp; omega)).trans (Below.heap_alloc w.drew _ k hks)))
    obtain ⟨_, cs2, e2⟩ := hbl k e.symm
    rw [hk] at e2
    injection e2 with e2; injection e2 with _ e2
    exact absurd e2 (by decide)
  · obtain rfl : j = xs.length := by
      have : j < (xs ++ [l]).length := (List.getElem?_eq_some_iff.1 hj).1
      simp at this; omega
    rw [List.getElem?_append_right (Nat.le_refl _), Nat.sub_self] at hj
    obtain rfl : l = l' := by simpa using hj
    refine ⟨_, by rw [← hLl, List.getElem?_append_right (Nat.le_refl _), Nat.sub_self]; rfl, hrow.move fun k cs hk => ?_⟩
    have hks := lt_of_block hk
    refine (hg.block k (by simp at hks ⊢; omega) (fun e => ?_)).trans (Below.heap_alloc (w.drew.alloc _) _ k hks)
    obtain ⟨_, cs2, e2⟩ := hbl k e.symm
    have hk2 : k < w.heap.size := lt_of_block e2
    rw [Below.heap_alloc w.drew _ k hk2] at hk
    rw [show w.drew.heap[k]? = w.heap[k]? from rfl, e2] at hk
    injection hk with e2; injection e2 with _ e2
    exact absurd e2 (by decide)
theorem AS.out {w0 w : World} {T : Option Addr} {c : Nat} {xs : List (List Int)} {L : List Value} (h : AS w0 w T c xs L) (h0 : 0 < xs.length) :
    ∃ g L', T = some ⟨g, 0, none⟩ ∧ Rec w g L' 27 ∧ xs.length ≤ L'.length ∧ xs.length ≤ c ∧ w0.heap.size ≤ g ∧ RO w g L' xs ∧ RR w g xs := by
  obtain ⟨hl, h1 | ⟨g, cap, cur, e, hg, hh, hn, hm, hs, ht⟩⟩ := h.own
  · omega
  · injection e with e1 e2 e3
    subst e1 e3
    have hR : Rec w g cur.toList 27 := by unfold Rec; simpa using hh
    have hat : ∀ j, j < xs.length → cur.toList[j]? = L[j]? := fun j hj => by rw [← ht, List.getElem?_take_of_lt (by omega)]
    have hrow : RO w g cur.toList xs := by
      intro j l hj
      have hjl : j < xs.length := (List.getElem?_eq_some_iff.1 hj).1
      obtain ⟨v, hv, b, c', cs, rfl, hc', hB, hb, hr⟩ := h.row j l hj
      refine ⟨b, c', by rw [hat j hjl]; exact hv, hc', ?_, hr⟩
      rintro rfl
      rw [hh] at hb
      injection hb with hb; injection hb with _ hb
      exact absurd hb (by decide)
    refine ⟨g, cur.toList, rfl, hR, by have e9 : cur.toList.length = cur.size := Array.length_toList; omega, hn, hg, hrow, fun j l hj => ?_⟩
    obtain ⟨b, c', hv, hc', _, hr⟩ := hrow j l hj
    exact ⟨b, c', hR.cell j hv, hc', hr⟩
end Go.Proofs.YthbdaoapjnofkaaDoor.H
