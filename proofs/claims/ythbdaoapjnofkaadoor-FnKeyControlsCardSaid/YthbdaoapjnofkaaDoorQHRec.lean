/- A block of cells that is a struct (or a row): its cells one by one, and what stays of it; no condition. -/
import Derived.Test.YthbdaoapjnofkaaDoorQHBase
import Derived.Test.YthbdaoapjnofkaaDoorQXRunes
namespace Go.Proofs.YthbdaoapjnofkaaDoor.H
open Go.RowKit Go.Proofs.YthbdaoapjnofkaaDoorW.PrintWords Go.Proofs.YthbdaoapjnofkaaDoorW.PrintLast Go.Proofs.YthbdaoapjnofkaaDoor.R
set_option linter.unusedVariables false
/-- Block b is the cells l. -/
def Rec (w : World) (b : Nat) (l : List Value) (t : TypeId) : Prop := w.heap[b]? = some (.cells l.toArray t (0, 0))
section
variable {w w1 : World} {b : Nat} {l : List Value} {u v : Value} {t : TypeId}
theorem Rec.cell (h : Rec w b l t) (i : Nat) (hv : l[i]? = some v) : w.cell? ⟨b, i, none⟩ = some v := by simp only [World.cell?, (show w.heap[b]? = _ from h)]; simpa using hv
theorem Rec.free (h : Rec w b l t) (i : Nat) : w.frozen? ⟨b, i, none⟩ = false := by simp only [World.frozen?, (show w.heap[b]? = _ from h)]; simp
theorem Rec.lt (h : Rec w b l t) : b < w.heap.size := lt_of_block h
theorem Rec.below (h : Rec w b l t) {B : Nat} (hb : Below B w w1) (hB : b < B) : Rec w1 b l t := (hb.block b hB).trans h
theorem Rec.drewN (h : Rec w b l t) (n : Nat) : Rec (w.drewN n) b l t := h
theorem Rec.drew (h : Rec w b l t) : Rec w.drew b l t := h
theorem Rec.alloc (h : Rec w b l t) (o : Obj) : Rec (w.alloc o) b l t := (Below.heap_alloc w o b h.lt).trans h
theorem Rec.set (h : Rec w b l t) (i : Nat) (u : Value) : Rec (w.setCell ⟨b, i, none⟩ u) b (l.set i u) t := by
  have hlt := h.lt
  have h' : w.heap[b] = .cells l.toArray t (0, 0) := by have h0 := h; simpa [Rec, Array.getElem?_eq_getElem hlt] using h0
  show (w.heap.modify b _)[b]? = _
  rw [Array.getElem?_eq_getElem (by simpa using hlt), Array.getElem_modify_self, h']
  simp
end
end Go.Proofs.YthbdaoapjnofkaaDoor.H
