/- Small words for the walks that are typed by hand in this seat: a block of one cell, what stays behind a call; no condition. -/
import Derived.Test.YtdinikcfhpfojaaDoorProg
import Derived.Test.YtdinikcfhpfojaaDoorQWAll
import Derived.WalkKit
import Derived.WalkSpells
import Derived.Lib.Hide
import Derived.Conc.MuLone
import Derived.Deep.QuietTactic
import Derived.BigQuiet
import Derived.Deep.RegionHeld3
import Derived.Deep.DrawnRows
namespace Go.Proofs.YtdinikcfhpfojaaDoor.H
open Go.RowKit Go.Proofs.YtdinikcfhpfojaaDoorW.PrintWords Go.Proofs.YtdinikcfhpfojaaDoorW.PrintLast
set_option linter.unusedVariables false
/-- Block b is one cell, which holds v. -/
def One (w : World) (b : Nat) (v : Value) (t : TypeId) : Prop := w.heap[b]? = some (.cells #[v] t (0, 0))
section
variable {w w1 : World} {b : Nat} {v u : Value} {t : TypeId}
theorem One.cell (h : One w b v t) : w.cell? ⟨b, 0, none⟩ = some v := cell_of_one h
theorem One.free (h : One w b v t) : w.frozen? ⟨b, 0, none⟩ = false := free_of_one h
theorem One.lt (h : One w b v t) : b < w.heap.size := lt_of_block h
theorem One.below (h : One w b v t) {B : Nat} (hb : Below B w w1) (hB : b < B) : One w1 b v t := (hb.block b hB).trans h
theorem One.stays (h : One w b v t) (hb : Below w.heap.size w w1) : One w1 b v t := (hb.block b h.lt).trans h
theorem One.drew (h : One w b v t) : One w.drew b v t := h
theorem One.drewN (h : One w b v t) (n : Nat) : One (w.drewN n) b v t := h
theorem One.alloc (h : One w b v t) (o : Obj) : One (w.alloc o) b v t := (Below.heap_alloc w o b h.lt).trans h
theorem One.new (w : World) (v : Value) (t : TypeId) : One (w.alloc (.cells #[v] t)) w.heap.size v t := Go.heap_alloc_new w _
theorem One.at_ (w : World) (v : Value) (t : TypeId) {b : Nat} (h : b = w.heap.size) : One (w.alloc (.cells #[v] t)) b v t := h ▸ One.new w v t
theorem One.set (h : One w b v t) (u : Value) : One (w.setCell ⟨b, 0, none⟩ u) b u t := one_setCell h
theorem One.other (h : One w b v t) {a : Addr} (ha : b ≠ a.block) (u : Value) : One (w.setCell a u) b v t := (Below.heap_setCell w a u b ha).trans h
end
end Go.Proofs.YtdinikcfhpfojaaDoor.H
