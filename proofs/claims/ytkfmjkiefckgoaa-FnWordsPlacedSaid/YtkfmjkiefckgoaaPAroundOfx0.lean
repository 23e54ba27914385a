/- Printed by a program of this seat (xprint) out of the translation: Go functions as plain functions, and the walks that show them; no condition. -/
import Derived.Test.YtkfmjkiefckgoaaProg
import Derived.Below
import Derived.Deep.Draws
import Derived.Deep.AppendLies
import Derived.Maps.AppendAt
import Derived.OwnWalk
import Derived.Laws.BytesArg
import Derived.Laws.MakeOwn
import Derived.Laws.OwnMore
import Derived.Deep.OwnRows
import Derived.Tactics
import Derived.Lib.ConvBytes
import Derived.Laws.Slices
import Derived.WalkKit
import Derived.KernelRfl
import Derived.RowKit3
import Derived.Deep.LoopGhost
import Derived.Deep.QuietTactic
import Derived.BigQuiet
import Derived.WideLaws
import Derived.Deep.DeepCutAuto
import Derived.Deep.CutBlock
import Derived.Deep.RegionHeld3
import Derived.Laws.Rows
import Derived.Lib.AppendStr
import Derived.ArgAppend
import Derived.Laws.IdiomCopy
import Derived.OrdersHeld
import Derived.Laws.BitsLemmas
import Derived.RowKit
import Derived.Test.YtkfmjkiefckgoaaXRunes
import Derived.Test.YtkfmjkiefckgoaaWWords
import Derived.Test.YtkfmjkiefckgoaaWLast
import Derived.Test.YtkfmjkiefckgoaaWTab
import Derived.Test.YtkfmjkiefckgoaaWFour
import Derived.Test.YtkfmjkiefckgoaaWQPut
import Derived.Test.YtkfmjkiefckgoaaWApart
import Derived.Test.YtkfmjkiefckgoaaWArr
import Derived.Test.YtkfmjkiefckgoaaWZeros
import Derived.Test.YtkfmjkiefckgoaaWFoot
import Derived.Test.YtkfmjkiefckgoaaWKept
import Derived.Test.YtkfmjkiefckgoaaWShare
import Derived.Test.YtkfmjkiefckgoaaWN
import Derived.Test.YtkfmjkiefckgoaaWFootNe
import Derived.Test.YtkfmjkiefckgoaaWAt
import Derived.Test.YtkfmjkiefckgoaaWEqStruct
import Derived.Test.YtkfmjkiefckgoaaWRepsOne
import Derived.Test.YtkfmjkiefckgoaaWInv
import Derived.Test.YtkfmjkiefckgoaaWInvWords
import Derived.Test.YtkfmjkiefckgoaaWGuard
import Derived.Test.YtkfmjkiefckgoaaWNEv
import Derived.Test.YtkfmjkiefckgoaaWMore
namespace Go.Proofs.Ytkfmjkiefckgoaa.PAroundOf
open Go.RowKit Go.Proofs.YtkfmjkiefckgoaaW.PrintWords Go.Proofs.YtkfmjkiefckgoaaW.PrintLast Go.Proofs.YtkfmjkiefckgoaaW.PrintMore
attribute [local go_sem] max2_int min2_int max_two min_two max_three min_three max_four min_four   -- for this text's walks alone
set_option linter.unusedVariables false
set_option linter.unusedSimpArgs false



def errW : Option Int → Value
  | none => .nilIface
  | some c => .iface 0 (.int .i64 c)
theorem errW_none : errW none = .nilIface := rfl
theorem errW_some (c : Int) : errW (some c) = .iface 0 (.int .i64 c) := rfl

theorem info3 : (Try.prog.info? 3).map (fun i => (i.zero, i.size, i.bytes)) = some (some (.int .i64 0), 1, 8) := by kernel_rfl
theorem info9 : (Try.prog.info? 9).map (fun i => (i.zero, i.size, i.bytes)) = some (some (.string ⟨#[]⟩), 1, 16) := by kernel_rfl
theorem info21 : (Try.prog.info? 21).map (fun i => (i.zero, i.size, i.bytes)) = some (some (.int .i32 0), 1, 4) := by kernel_rfl
-- the values' own types

section
set_option linter.unusedVariables false
/-- A state of type 42 at block g of W; what its slices lead to came in by w0. -/
def IsS42 (w0 W : World) (g : Nat) (f0 : ByteArray) (f1 : Int) : Prop := W.heap[g]? = some (.cells #[.string f0, .int .i64 f1] 42 (0, 0)) ∧ w0.heap.size ≤ g
theorem IsS42.grown {w0 W : World} {g : Nat} {f0 : ByteArray} {f1 : Int} {W1 : World} {row : Option Nat} (h : IsS42 w0 W g f0 f1) (hw : W.grownBy W1 row) (hne : some g ≠ row) : IsS42 w0 W1 g f0 f1 := by
  obtain ⟨hb, hg⟩ := h
  exact ⟨blk_grown hb hw hne, hg⟩
theorem IsS42.own_neN {w0 W : World} {g : Nat} {f0 : ByteArray} {f1 : Int} {α : Type} {d : Kd α} {e : Nat} {base : Nat} {ok : Nat → Prop} {v : Value} {xs : List α} (h : IsS42 w0 W g f0 f1) (ho : Kd.N d e W base ok v xs) (ht : e ≠ 42) : some g ≠ v.ownBlock := by
  obtain ⟨hb, hg⟩ := h
  exact Kd.N_ne ho hb ht
theorem IsS42.fresh {w0 W : World} {g : Nat} {f0 : ByteArray} {f1 : Int} (h : IsS42 w0 W g f0 f1) : ∀ k, W.heap.size ≤ k → k ≠ g := by
  obtain ⟨hb, hg⟩ := h
  exact Kd.freshB hb
theorem IsS42.kept {w0 W : World} {g : Nat} {f0 : ByteArray} {f1 : Int} {W1 : World} {S : Nat → Prop} (h : IsS42 w0 W g f0 f1) (hk : Kept W W1 S) (hne : ¬ S g) : IsS42 w0 W1 g f0 f1 := by
  obtain ⟨hb, hg⟩ := h
  exact ⟨blk_kept hb hk hne, hg⟩
theorem IsS42.below {w0 W : World} {g : Nat} {f0 : ByteArray} {f1 : Int} {W1 : World} (h : IsS42 w0 W g f0 f1) (hw : Below W.heap.size W W1) : IsS42 w0 W1 g f0 f1 := h.grown (grown_of_below hw none) (by simp)
theorem IsS42.alloc {w0 W : World} {g : Nat} {f0 : ByteArray} {f1 : Int} (h : IsS42 w0 W g f0 f1) (o : Obj) : IsS42 w0 (W.alloc o) g f0 f1 := h.below (below_alloc (Below.refl _ _) o)
theorem IsS42.drewN {w0 W : World} {g : Nat} {f0 : ByteArray} {f1 : Int} (h : IsS42 w0 W g f0 f1) (m : Nat) : IsS42 w0 (W.drewN m) g f0 f1 := h
theorem IsS42.drew {w0 W : World} {g : Nat} {f0 : ByteArray} {f1 : Int} (h : IsS42 w0 W g f0 f1) : IsS42 w0 W.drew g f0 f1 := h
theorem IsS42.at_ {w0 W : World} {g : Nat} {f0 : ByteArray} {f1 : Int} {w' : World} {m : Nat} (hq : W.drewN m = w') (h : IsS42 w0 W g f0 f1) : IsS42 w0 w' g f0 f1 := by subst hq; exact IsS42.drewN h m
theorem IsS42.apart {w0 W : World} {g : Nat} {f0 : ByteArray} {f1 : Int} {α : Type} {d : Kd α} {e : Nat} {base : Nat} {ok : Nat → Prop} {v : Value} {xs : List α} (h : IsS42 w0 W g f0 f1) (ho : d.R e W base ok v xs) (ht : ∀ q, q ∈ e :: d.E → q ≠ 42) : d.R e W base (fun k => ok k ∧ k ≠ g) v xs := by
  obtain ⟨hb, hg⟩ := h
  exact Kd.R_types ho hb ht
theorem IsS42.own_ne {w0 W : World} {g : Nat} {f0 : ByteArray} {f1 : Int} {α : Type} {d : Kd α} {e : Nat} {base : Nat} {ok : Nat → Prop} {v : Value} {xs : List α} (h : IsS42 w0 W g f0 f1) (ho : d.R e W base ok v xs) (ht : e ≠ 42) : some g ≠ v.ownBlock := by
  obtain ⟨hb, hg⟩ := h
  exact Kd.R_ne ho hb ht
theorem IsS42.apartQ {w0 W : World} {g : Nat} {f0 : ByteArray} {f1 : Int} {α : Type} {d : Kd α} {e : Nat} {base : Nat} {ok : Nat → Prop} {v : Value} {xs : List α} (h : IsS42 w0 W g f0 f1) (ho : d.Q e W base ok v xs) (ht : ∀ q, q ∈ e :: d.E → q ≠ 42) : d.Q e W base (fun k => ok k ∧ k ≠ g) v xs := by
  obtain ⟨hb, hg⟩ := h
  exact Kd.Q_types ho hb ht
theorem IsS42.own_neQ {w0 W : World} {g : Nat} {f0 : ByteArray} {f1 : Int} {α : Type} {d : Kd α} {e : Nat} {base : Nat} {ok : Nat → Prop} {v : Value} {xs : List α} (h : IsS42 w0 W g f0 f1) (ho : d.Q e W base ok v xs) (ht : e ≠ 42) : some g ≠ v.ownBlock := by
  obtain ⟨hb, hg⟩ := h
  exact Kd.Q_ne ho hb ht
theorem IsS42.apartS {w0 W : World} {g : Nat} {f0 : ByteArray} {f1 : Int} {α : Type} {d : Kd α} {e : Nat} {base : Nat} {ok : Nat → Prop} {v : Value} {xs : List α} (h : IsS42 w0 W g f0 f1) (ho : d.S e W base ok v xs) (ht : ∀ q, q ∈ e :: d.E → q ≠ 42) : d.S e W base (fun k => ok k ∧ k ≠ g) v xs := by
  obtain ⟨hb, hg⟩ := h
  exact Kd.S_types ho hb ht
theorem IsS42.own_neS {w0 W : World} {g : Nat} {f0 : ByteArray} {f1 : Int} {α : Type} {d : Kd α} {e : Nat} {base : Nat} {ok : Nat → Prop} {v : Value} {xs : List α} (h : IsS42 w0 W g f0 f1) (ho : d.S e W base ok v xs) (ht : e ≠ 42) : some g ≠ v.ownBlock := by
  obtain ⟨hb, hg⟩ := h
  exact Kd.S_ne ho hb ht
theorem IsS42.lt {w0 W : World} {g : Nat} {f0 : ByteArray} {f1 : Int} (h : IsS42 w0 W g f0 f1) : g < W.heap.size := by
  obtain ⟨hb, hg⟩ := h
  exact blk_lt hb
theorem IsS42.ge {w0 W : World} {g : Nat} {f0 : ByteArray} {f1 : Int} (h : IsS42 w0 W g f0 f1) : w0.heap.size ≤ g := by
  obtain ⟨hb, hg⟩ := h
  exact hg
theorem IsS42.ne_blk {w0 W : World} {g : Nat} {f0 : ByteArray} {f1 : Int} {a : Nat} {cs : Array Value} {t : TypeId} {fr : Nat × Nat} (h : IsS42 w0 W g f0 f1) (hb2 : W.heap[a]? = some (.cells cs t fr)) (ht : t ≠ 42) : g ≠ a := by
  obtain ⟨hb, hg⟩ := h
  rintro rfl
  rw [hb] at hb2
  injection hb2 with hb2
  injection hb2 with _ ht2
  exact ht ht2.symm
theorem IsS42.far {w0 W : World} {g : Nat} {f0 : ByteArray} {f1 : Int} {p : Addr} (h : IsS42 w0 W g f0 f1) (hne : g ≠ p.block) (u : Value) : IsS42 w0 (W.setCell p u) g f0 f1 := by
  obtain ⟨hb, hg⟩ := h
  exact ⟨blk_far hb hne u, hg⟩
theorem cellS42_0 {W : World} {g : Nat} {f0 : ByteArray} {f1 : Int} (h : W.heap[g]? = some (.cells #[.string f0, .int .i64 f1] 42 (0, 0))) : W.cell? ⟨g, 0, none⟩ = some (.string f0) := (blk_cell h 0).trans rfl
theorem IsS42.set_0 {w0 W : World} {g : Nat} {f0 : ByteArray} {f1 : Int} (h : IsS42 w0 W g f0 f1) (x : ByteArray) : IsS42 w0 (W.setCell ⟨g, 0, none⟩ (.string x)) g x f1 := by
  obtain ⟨hb, hg⟩ := h
  exact ⟨by simpa using blk_set hb 0 (.string x), hg⟩
theorem cellS42_1 {W : World} {g : Nat} {f0 : ByteArray} {f1 : Int} (h : W.heap[g]? = some (.cells #[.string f0, .int .i64 f1] 42 (0, 0))) : W.cell? ⟨g, 1, none⟩ = some (.int .i64 f1) := (blk_cell h 1).trans rfl
theorem IsS42.set_1 {w0 W : World} {g : Nat} {f0 : ByteArray} {f1 : Int} (h : IsS42 w0 W g f0 f1) (x : Int) : IsS42 w0 (W.setCell ⟨g, 1, none⟩ (.int .i64 x)) g f0 x := by
  obtain ⟨hb, hg⟩ := h
  exact ⟨by simpa using blk_set hb 1 (.int .i64 x), hg⟩
theorem IsS42.new (w0 W : World) (f0 : ByteArray) (f1 : Int) (hB : Below w0.heap.size w0 W) : IsS42 w0 (W.alloc (.cells #[.string f0, .int .i64 f1] 42)) W.heap.size f0 f1 := ⟨by simpa using heap_alloc_new W _, hB.size⟩

end
end Go.Proofs.Ytkfmjkiefckgoaa.PAroundOf
