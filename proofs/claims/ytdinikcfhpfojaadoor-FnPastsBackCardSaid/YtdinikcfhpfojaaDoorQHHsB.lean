/- A ring of elements (container/list: PushBack): what it makes of memory; no condition. -/
import Derived.Test.YtdinikcfhpfojaaDoorQHHsA
import Derived.IntWalk
namespace Go.Proofs.YtdinikcfhpfojaaDoor.H
open Go.RowKit Go.Proofs.YtdinikcfhpfojaaDoorW.PrintWords Go.Proofs.YtdinikcfhpfojaaDoorW.PrintLast Go.Proofs.YtdinikcfhpfojaaDoor.R
set_option linter.unusedVariables false
set_option linter.unusedSimpArgs false
attribute [local go_sem ↓] Go.wp_at_zero Go.wp_at_succ
/-- What the steps leave as it was: all but blocks of a history's own kinds. -/
def Frm (B : Nat) (w w' : World) : Prop := Below B w w' ∧ ∀ (k : Nat) (cs : Array Value) (t : TypeId) (fz : Nat × Nat), w.heap[k]? = some (Obj.cells cs t fz) → t ≠ 127 → t ≠ 157 → t ≠ 155 → t ≠ 161 → w'.heap[k]? = w.heap[k]?
theorem Frm.refl (B : Nat) (w : World) : Frm B w w := ⟨Below.refl _ _, fun _ _ _ _ _ _ _ _ _ => rfl⟩
theorem Frm.trans {B : Nat} {w w1 w2 : World} (h : Frm B w w1) (g : Frm B w1 w2) : Frm B w w2 := ⟨h.1.trans g.1, fun k cs t fz hk h1 h2 h3 h4 => (g.2 k cs t fz ((h.2 k cs t fz hk h1 h2 h3 h4).trans hk) h1 h2 h3 h4).trans (h.2 k cs t fz hk h1 h2 h3 h4)⟩
theorem Frm.of_below {B : Nat} {w w1 : World} (h : Below w.heap.size w w1) (hB : B ≤ w.heap.size) : Frm B w w1 := ⟨h.mono hB, fun k cs t fz hk _ _ _ _ => h.block k (lt_of_block hk)⟩
theorem Frm.set {B b : Nat} {w : World} {l : List Value} {t : TypeId} (h : Rec w b l t) (ht : t = 127 ∨ t = 157 ∨ t = 155 ∨ t = 161) (hB : B ≤ b) (i : Nat) (u : Value) : Frm B w (w.setCell ⟨b, i, none⟩ u) := ⟨(Below.refl B w).setCell hB u, fun k cs t' fz hk h1 h2 h3 h4 => Below.heap_setCell w ⟨b, i, none⟩ u k (fun e => by
  have e' : k = b := e
  rw [e', show w.heap[b]? = _ from h] at hk
  injection hk with hk; injection hk with _ hk _
  rcases ht with rfl | rfl | rfl | rfl
  · exact h1 hk.symm
  · exact h2 hk.symm
  · exact h3 hk.symm
  · exact h4 hk.symm)⟩
theorem Frm.rows {B : Nat} {w w1 : World} (h : Frm B w w1) : Rows21 w w1 := fun k cs fz hk => h.2 k cs 21 fz hk (by decide) (by decide) (by decide) (by decide)
theorem Frm.one {B b : Nat} {w w1 : World} {l : List Value} {t : TypeId} (h : Frm B w w1) (hr : Rec w b l t) (h1 : t ≠ 127) (h2 : t ≠ 157) (h3 : t ≠ 155) (h4 : t ≠ 161) : Rec w1 b l t := (h.2 b _ t _ hr h1 h2 h3 h4).trans hr
theorem Rec.ne {w : World} {a b : Nat} {la lb : List Value} {ta tb : TypeId} (ha : Rec w a la ta) (hb : Rec w b lb tb) (h : ta ≠ tb) : a ≠ b := by
  rintro rfl
  have h2 := ha
  unfold Rec at h2
  rw [show w.heap[a]? = _ from hb] at h2
  injection h2 with h2; injection h2 with _ h2 _
  exact h h2.symm
/-- Blocks but three are as they were. -/
def But3 (a b c : Nat) (w w' : World) : Prop := ∀ k, k ≠ a → k ≠ b → k ≠ c → w'.heap[k]? = w.heap[k]?
theorem lazy_calls (lb nx pv n : Nat) (w : World) (h : Rec w lb (lsC nx pv n) 157) : Calls Tryd.prog 199 #[PtS lb] w fun e w' => e = .returned (.tuple #[]) ∧ w' = w := by
  have c1 := h.cell 0 rfl
  clear h
  go_enter Tryd.func199, Tryd.ntmps199
  go_wp2
  go_end0
  exact ⟨rfl, rfl⟩
set_option maxRecDepth 100000 in
set_option maxHeartbeats 4000000 in
theorem insert_first (B lb n t : Nat) (w : World) (hn : Rec w n [.pointer none, .pointer none, .pointer none, .iface 162 (PtS t)] 155) (hl : Rec w lb (lsC lb lb 0) 157) (hB : B ≤ n) (hB2 : B ≤ lb) :
    Calls Tryd.prog 206 #[PtS lb, PtS n, PtS lb] w fun e w' => e = .returned (PtS n) ∧ Rec w' n (elC lb lb lb t) 155 ∧ Rec w' lb (lsC n n 1) 157 ∧ But3 n lb lb w w' ∧ Frm B w w' ∧ w'.heap.size = w.heap.size := by
  have hne : n ≠ lb := hn.ne hl (by decide)
  have hne' : lb ≠ n := Ne.symm hne
  have n0 := hn.cell 0 rfl
  have n1 := hn.cell 1 rfl
  have n2 := hn.cell 2 rfl
  have f0 := hn.free 0
  have f1 := hn.free 1
  have f2 := hn.free 2
  have l0 := hl.cell 0 rfl
  have l1 := hl.cell 1 rfl
  have l4 := hl.cell 4 rfl
  have g0 := hl.free 0
  have g1 := hl.free 1
  have g4 := hl.free 4
  have HN := Lib.hid (And.intro hn hl)
  clear hn hl
  go_enter Tryd.func206, Tryd.ntmps206
  go_wp2
  go_ret
  have a1 := HN.out.1.set 1 (PtS lb)
  have b1 := HN.out.2.other (a := ⟨n, 1, none⟩) hne' (PtS lb)
  have e1 := Frm.set HN.out.1 (.inr (.inr (.inl rfl))) hB 1 (PtS lb)
  have a2 := a1.set 0 (PtS lb)
  have b2 := b1.other (a := ⟨n, 0, none⟩) hne' (PtS lb)
  have e2 := e1.trans (Frm.set a1 (.inr (.inr (.inl rfl))) hB 0 (PtS lb))
  have a3 := a2.other (a := ⟨lb, 0, none⟩) hne (PtS n)
  have b3 := b2.set 0 (PtS n)
  have e3 := e2.trans (Frm.set b2 (.inr (.inl rfl)) hB2 0 (PtS n))
  have a4 := a3.other (a := ⟨lb, 1, none⟩) hne (PtS n)
  have b4 := b3.set 1 (PtS n)
  have e4 := e3.trans (Frm.set b3 (.inr (.inl rfl)) hB2 1 (PtS n))
  have a5 := a4.set 2 (PtS lb)
  have b5 := b4.other (a := ⟨n, 2, none⟩) hne' (PtS lb)
  have e5 := e4.trans (Frm.set a4 (.inr (.inr (.inl rfl))) hB 2 (PtS lb))
  have a6 := a5.other (a := ⟨lb, 4, none⟩) hne (.int .i64 1)
  have b6 := b5.set 4 (.int .i64 1)
  have e6 := e5.trans (Frm.set b5 (.inr (.inl rfl)) hB2 4 (.int .i64 1))
  refine ⟨rfl, a6, b6, fun k h1 h2 _ => ?_, e6, by simp⟩
  rw [Below.heap_setCell _ ⟨lb, 4, none⟩ _ k h2, Below.heap_setCell _ ⟨n, 2, none⟩ _ k h1, Below.heap_setCell _ ⟨lb, 1, none⟩ _ k h2, Below.heap_setCell _ ⟨lb, 0, none⟩ _ k h2, Below.heap_setCell _ ⟨n, 0, none⟩ _ k h1, Below.heap_setCell _ ⟨n, 1, none⟩ _ k h1]
set_option maxRecDepth 100000 in
set_option maxHeartbeats 4000000 in
theorem insert_next (B lb n t a nx pv tl len : Nat) (w : World) (hn : Rec w n [.pointer none, .pointer none, .pointer none, .iface 162 (PtS t)] 155) (hl : Rec w lb (lsC nx a len) 157) (ha : Rec w a (elC lb pv lb tl) 155) (hna : n ≠ a) (hB : B ≤ n) (hB2 : B ≤ lb) (hB3 : B ≤ a) (hlen : len ≤ 1000000) :
    Calls Tryd.prog 206 #[PtS lb, PtS n, PtS a] w fun e w' => e = .returned (PtS n) ∧ Rec w' n (elC lb a lb t) 155 ∧ Rec w' lb (lsC nx n (len + 1)) 157 ∧ Rec w' a (elC n pv lb tl) 155 ∧ But3 n lb a w w' ∧ Frm B w w' ∧ w'.heap.size = w.heap.size := by
  have hne : n ≠ lb := hn.ne hl (by decide)
  have hne' : lb ≠ n := Ne.symm hne
  have hal : a ≠ lb := ha.ne hl (by decide)
  have hal' : lb ≠ a := Ne.symm hal
  have hna' : a ≠ n := Ne.symm hna
  have n0 := hn.cell 0 rfl
  have n1 := hn.cell 1 rfl
  have n2 := hn.cell 2 rfl
  have f0 := hn.free 0
  have f1 := hn.free 1
  have f2 := hn.free 2
  have l1 := hl.cell 1 rfl
  have l4 := hl.cell 4 rfl
  have g1 := hl.free 1
  have g4 := hl.free 4
  have a0 := ha.cell 0 rfl
  have h0 := ha.free 0
  have w64_ : IntKind.i64.wrap ((len : Int) + 1) = (len : Int) + 1 := IntWalk.i64_in _ (by omega)
  have HN := Lib.hid (And.intro hn (And.intro hl ha))
  clear hn hl ha
  go_enter Tryd.func206, Tryd.ntmps206
  go_wp2
  go_ret
  have a1 := HN.out.1.set 1 (PtS a)
  have b1 := HN.out.2.1.other (a := ⟨n, 1, none⟩) hne' (PtS a)
  have c1 := HN.out.2.2.other (a := ⟨n, 1, none⟩) hna' (PtS a)
  have e1 := Frm.set HN.out.1 (.inr (.inr (.inl rfl))) hB 1 (PtS a)
  have a2 := a1.set 0 (PtS lb)
  have b2 := b1.other (a := ⟨n, 0, none⟩) hne' (PtS lb)
  have c2 := c1.other (a := ⟨n, 0, none⟩) hna' (PtS lb)
  have e2 := e1.trans (Frm.set a1 (.inr (.inr (.inl rfl))) hB 0 (PtS lb))
  have a3 := a2.other (a := ⟨a, 0, none⟩) hna (PtS n)
  have b3 := b2.other (a := ⟨a, 0, none⟩) hal' (PtS n)
  have c3 := c2.set 0 (PtS n)
  have e3 := e2.trans (Frm.set c2 (.inr (.inr (.inl rfl))) hB3 0 (PtS n))
  have a4 := a3.other (a := ⟨lb, 1, none⟩) hne (PtS n)
  have b4 := b3.set 1 (PtS n)
  have c4 := c3.other (a := ⟨lb, 1, none⟩) hal (PtS n)
  have e4 := e3.trans (Frm.set b3 (.inr (.inl rfl)) hB2 1 (PtS n))
  have a5 := a4.set 2 (PtS lb)
  have b5 := b4.other (a := ⟨n, 2, none⟩) hne' (PtS lb)
  have c5 := c4.other (a := ⟨n, 2, none⟩) hna' (PtS lb)
  have e5 := e4.trans (Frm.set a4 (.inr (.inr (.inl rfl))) hB 2 (PtS lb))
  have a6 := a5.other (a := ⟨lb, 4, none⟩) hne (.int .i64 ((len : Int) + 1))
  have b6 := b5.set 4 (.int .i64 ((len : Int) + 1))
  have c6 := c5.other (a := ⟨lb, 4, none⟩) hal (.int .i64 ((len : Int) + 1))
  have e6 := e5.trans (Frm.set b5 (.inr (.inl rfl)) hB2 4 (.int .i64 ((len : Int) + 1)))
  refine ⟨rfl, a6, b6, c6, fun k h1 h2 h3 => ?_, e6, by simp⟩
  rw [Below.heap_setCell _ ⟨lb, 4, none⟩ _ k h2, Below.heap_setCell _ ⟨n, 2, none⟩ _ k h1, Below.heap_setCell _ ⟨lb, 1, none⟩ _ k h2, Below.heap_setCell _ ⟨a, 0, none⟩ _ k h3, Below.heap_setCell _ ⟨n, 0, none⟩ _ k h1, Below.heap_setCell _ ⟨n, 1, none⟩ _ k h1]
end Go.Proofs.YtdinikcfhpfojaaDoor.H
