/- A block of cells that is a struct (or a row): its cells one by one, and what stays of it; no condition. -/
import Derived.Test.YtdinikcfhpfojaaDoorQHBase
import Derived.Test.YtdinikcfhpfojaaDoorQXRunes
namespace Go.Proofs.YtdinikcfhpfojaaDoor.H
open Go.RowKit Go.Proofs.YtdinikcfhpfojaaDoorW.PrintWords Go.Proofs.YtdinikcfhpfojaaDoorW.PrintLast Go.Proofs.YtdinikcfhpfojaaDoor.R
set_option linter.unusedVariables false
/-- Block b is the cells l. -/
def Rec (w : World) (b : Nat) (l : List Value) (t : TypeId) : Prop := w.heap[b]? = some (.cells l.toArray t (0, 0))
section
variable {w w1 : World} {b : Nat} {l : List Value} {u v : Value} {t : TypeId}
theorem Rec.cell (h : Rec w b l t) (i : Nat) (hv : l[i]? = some v) : w.cell? ⟨b, i, none⟩ = some v := by simp only [World.cell?, (show w.heap[b]? = _ from h)]; simpa using hv
theorem Rec.free (h : Rec w b l t) (i : Nat) : w.frozen? ⟨b, i, none⟩ = false := by simp only [World.frozen?, (show w.heap[b]? = _ from h)]; simp
theorem Rec.lt (h : Rec w b l t) : b < w.heap.size := lt_of_block h
theorem Rec.below (h : Rec w b l t) {B : Nat} (hb : Below B w w1) (hB : b < B) : Rec w1 b l t := (hb.block b hB).trans h
theorem Rec.stays (h : Rec w b l t) (hb : Below w.heap.size w w1) : Rec w1 b l t := (hb.block b h.lt).trans h
theorem Rec.drewN (h : Rec w b l t) (n : Nat) : Rec (w.drewN n) b l t := h
theorem Rec.drew (h : Rec w b l t) : Rec w.drew b l t := h
theorem Rec.alloc (h : Rec w b l t) (o : Obj) : Rec (w.alloc o) b l t := (Below.heap_alloc w o b h.lt).trans h
theorem Rec.new (w : World) (l : List Value) (t : TypeId) : Rec (w.alloc (.cells l.toArray t)) w.heap.size l t := Go.heap_alloc_new w _
theorem Rec.at_ (w : World) (l : List Value) (t : TypeId) {b : Nat} (h : b = w.heap.size) : Rec (w.alloc (.cells l.toArray t)) b l t := h ▸ Rec.new w l t
theorem Rec.set (h : Rec w b l t) (i : Nat) (u : Value) : Rec (w.setCell ⟨b, i, none⟩ u) b (l.set i u) t := by
  have hlt := h.lt
  have h' : w.heap[b] = .cells l.toArray t (0, 0) := by have h0 := h; simpa [Rec, Array.getElem?_eq_getElem hlt] using h0
  show (w.heap.modify b _)[b]? = _
  rw [Array.getElem?_eq_getElem (by simpa using hlt), Array.getElem_modify_self, h']
  simp
theorem Rec.other (h : Rec w b l t) {a : Addr} (ha : b ≠ a.block) (u : Value) : Rec (w.setCell a u) b l t := (Below.heap_setCell w a u b ha).trans h
theorem One.rec (h : One w b v t) : Rec w b [v] t := h
end
/-- The row that '[]rune(s)' makes. -/
def runeCells (l : List Int) (cap : Nat) : List Value := l.map (Value.int .i32) ++ List.replicate (cap - l.length) (.int .i32 0)
theorem runeCells_at (l : List Int) (cap j : Nat) (h : j < l.length) : (runeCells l cap)[j]? = some (.int .i32 (l.getD j 0)) := by
  unfold runeCells
  rw [List.getElem?_append_left (by simpa using h)]
  simp [List.getD, List.getElem?_eq_getElem h]
theorem runes_run {P : Program} (w : World) (src dst e : TypeId) (s : ByteArray) (hs : P.underlying src = some .string) (ht : P.underlying dst = some (.slice e)) (he : P.underlying e = some (.int .i32)) (hsz : s.size ≤ 70368744177664) :
    (convert src dst (.string s)).run P w = .ok (.slice (some ⟨w.heap.size, 0, none⟩) (runesOf s).length (grownCap w (runesOf s).length 0 e)) (w.drew.alloc (.cells (runeCells (runesOf s) (grownCap w (runesOf s).length 0 e)).toArray e)) := by
  have hr := run_runes_of_string (P := P) w src dst e s hs ht he (by rw [runesOf_size]; have := runesOf_length s; omega)
  rw [runesOf_size, runesFrom_eq] at hr
  simp only [Array.empty_append] at hr
  rw [hr]
  have e1 : runesAt s s.size 0 = runesOf s := rfl
  unfold runeCells
  rw [e1, show ∀ (a b : List Value), (a ++ b).toArray = a.toArray ++ b.toArray from fun a b => by simp, show ∀ (n : Nat) (v : Value), (List.replicate n v).toArray = Array.replicate n v from fun n v => by simp]
end Go.Proofs.YtdinikcfhpfojaaDoor.H
