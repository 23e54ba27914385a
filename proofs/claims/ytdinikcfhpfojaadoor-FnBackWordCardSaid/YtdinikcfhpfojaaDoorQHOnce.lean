/- One step on a line (impl.KeyedOnce): the contract by which the laws take it; of steps that fail, and of those that put in, or take out by words, nothing is said. -/
import Derived.Test.YtdinikcfhpfojaaDoorQHKeyed
namespace Go.Proofs.YtdinikcfhpfojaaDoor.H
open Go.RowKit Go.Proofs.YtdinikcfhpfojaaDoorW.PrintWords Go.Proofs.YtdinikcfhpfojaaDoorW.PrintLast Go.Proofs.YtdinikcfhpfojaaDoor.R
set_option linter.unusedVariables false
set_option linter.unusedSimpArgs false
attribute [local go_sem ↓] Go.wp_at_zero Go.wp_at_succ
def cells5 (k : Key5) : List Value := [.int .i64 k.op, .string k.text, .int .i64 k.n, .bool k.flag, .bool k.back]
def flat5 (l : List Key5) : List Value := l.flatMap cells5
theorem flat5_at (l : List Key5) : ∀ (j : Nat) (k : Key5) (i : Nat), l[j]? = some k → i < 5 → (flat5 l)[j * 5 + i]? = (cells5 k)[i]? := by
  induction l with
  | nil => intro j k i h; simp at h
  | cons x l ih =>
    intro j k i h hi
    have hx : (cells5 x).length = 5 := rfl
    cases j with
    | zero =>
      simp only [List.getElem?_cons_zero, Option.some.injEq] at h
      subst h
      simp only [flat5, List.flatMap_cons, Nat.zero_mul, Nat.zero_add]
      exact List.getElem?_append_left (by omega)
    | succ j =>
      simp only [List.getElem?_cons_succ] at h
      have := ih j k i h hi
      simp only [flat5, List.flatMap_cons] at *
      rw [List.getElem?_append_right (by omega), hx, show (j + 1) * 5 + i - 5 = j * 5 + i by omega]
      exact this
/-- A block that is known whole reads as steps. -/
theorem KR_of {w : World} {g : Nat} {l : List Key5} {B : Nat} (hB : g < B) (h : ∀ j u, (flat5 l)[j]? = some u → w.cell? ⟨g, j, none⟩ = some u) : KR w B (some ⟨g, 0, none⟩) l := by
  intro j k hj
  have e : ∀ i, (⟨g, 0, none⟩ : Addr).add (i * 5) = ⟨g, i * 5, none⟩ := fun i => by unfold Addr.add; split <;> simp_all
  refine ⟨_, rfl, by rw [e]; exact hB, ?_, ?_, ?_, ?_, ?_⟩
  · rw [e]; exact h (j * 5) _ (by have := flat5_at l j k 0 hj (by omega); simpa [cells5] using this)
  · rw [e]; exact h (j * 5 + 1) _ (by have := flat5_at l j k 1 hj (by omega); simpa [cells5] using this)
  · rw [e]; exact h (j * 5 + 2) _ (by have := flat5_at l j k 2 hj (by omega); simpa [cells5] using this)
  · rw [e]; exact h (j * 5 + 3) _ (by have := flat5_at l j k 3 hj (by omega); simpa [cells5] using this)
  · rw [e]; exact h (j * 5 + 4) _ (by have := flat5_at l j k 4 hj (by omega); simpa [cells5] using this)
theorem KR_rec {w : World} {g : Nat} {l : List Key5} {t : TypeId} (h : Rec w g (flat5 l) t) : KR w w.heap.size (some ⟨g, 0, none⟩) l := KR_of h.lt (fun j u hu => h.cell j hu)
def onceF (t : ByteArray) (a : Int) (k : Key5) : Option (ByteArray × Int × Int × Bool) :=
  match krun ⟨[], 0, []⟩ [⟨20, t, a, false, false⟩, k] with
  | some (s, [_, x]) => if s.buf.length ≤ 1000000000 then some (runesBytes s.buf, s.idx, x, true) else none
  | _ => none
set_option maxRecDepth 100000 in
set_option maxHeartbeats 4000000 in
theorem once_calls (t : ByteArray) (a : Int) (k : Key5) (s1 : KS) (x y : Int) (w : World) (hrun : krun ⟨[], 0, []⟩ [⟨20, t, a, false, false⟩, k] = some (s1, [y, x])) (hs1 : s1.buf.length ≤ 1000000000) :
    Calls Tryd.prog 20 #[.agg #[.string t, .int .i64 a], .agg #[.int .i64 k.op, .string k.text, .int .i64 k.n, .bool k.flag, .bool k.back]] w fun e w' => e = .returned (.tuple #[.agg #[.string (runesBytes s1.buf), .int .i64 s1.idx], .int .i64 x, .bool true]) ∧ Below w.heap.size w w' := by
  obtain ⟨op, text, n, flag, back⟩ := k
  go_enter Tryd.func20, Tryd.ntmps20
  go_wp2_with fail
  have hr0 := (Rec.at_ (b := w.heap.size + 2) ((w.alloc (.cells #[.string t, .int .i64 a] 23)).alloc (.cells #[.int .i64 op, .string text, .int .i64 n, .bool flag, .bool back] 29)) [.string ⟨#[]⟩, .int .i64 0] 23 (by simp)).alloc (.cells #[.int .i64 20, .string t, .int .i64 a, .bool false, .bool false, .int .i64 op, .string text, .int .i64 n, .bool flag, .bool back] 29)
  have hr1 := Rec.at_ (b := w.heap.size + 3) (((w.alloc (.cells #[.string t, .int .i64 a] 23)).alloc (.cells #[.int .i64 op, .string text, .int .i64 n, .bool flag, .bool back] 29)).alloc (.cells #[.string ⟨#[]⟩, .int .i64 0] 23)) (flat5 [⟨20, t, a, false, false⟩, ⟨op, text, n, flag, back⟩]) 29 (by simp)
  have hb0 : Below w.heap.size w ((((w.alloc (.cells #[.string t, .int .i64 a] 23)).alloc (.cells #[.int .i64 op, .string text, .int .i64 n, .bool flag, .bool back] 29)).alloc (.cells #[.string ⟨#[]⟩, .int .i64 0] 23)).alloc (.cells #[.int .i64 20, .string t, .int .i64 a, .bool false, .bool false, .int .i64 op, .string text, .int .i64 n, .bool flag, .bool back] 29)) := ((((Below.refl _ _).alloc (Nat.le_refl _) _).alloc (by simp) _).alloc (by simp; omega) _).alloc (by simp; omega) _
  change Rec ((((w.alloc (.cells #[.string t, .int .i64 a] 23)).alloc (.cells #[.int .i64 op, .string text, .int .i64 n, .bool flag, .bool back] 29)).alloc (.cells #[.string ⟨#[]⟩, .int .i64 0] 23)).alloc (.cells #[.int .i64 20, .string t, .int .i64 a, .bool false, .bool false, .int .i64 op, .string text, .int .i64 n, .bool flag, .bool back] 29)) _ _ _ at hr1
  generalize ((((w.alloc (.cells #[.string t, .int .i64 a] 23)).alloc (.cells #[.int .i64 op, .string text, .int .i64 n, .bool flag, .bool back] 29)).alloc (.cells #[.string ⟨#[]⟩, .int .i64 0] 23)).alloc (.cells #[.int .i64 20, .string t, .int .i64 a, .bool false, .bool false, .int .i64 op, .string text, .int .i64 n, .bool flag, .bool back] 29)) = W at *
  have hK := KR_rec hr1
  refine (Keyed_calls (some ⟨w.heap.size + 3, 0, none⟩) 2 [⟨20, t, a, false, false⟩, ⟨op, text, n, flag, back⟩] W s1 [y, x] (by simp) (by simp) hK hrun hs1).mono ?_
  rintro e w1 ⟨⟨T, ct, rfl, hN⟩, hb⟩
  have r0 := hr0.stays hb
  have hb1 : Below w.heap.size w w1 := hb0.trans (hb.mono hb0.size)
  obtain ⟨gg, cap, e1, _, hlt⟩ := World.ownsRow.form hN (by simp)
  have hcell := World.ownsRow.cells hN (g := gg) (by rw [e1]; rfl) 1 (.int .i64 x) rfl
  rw [show (⟨gg, 0, none⟩ : Addr).add 1 = ⟨gg, 1, none⟩ by unfold Addr.add; split <;> simp_all] at hcell
  injection e1 with e2 e3 e4
  subst e2 e4
  have hc2 := pw_cell_below ((Below.refl w1.heap.size w1).alloc (Nat.le_refl _) (.cells #[.string (runesBytes s1.buf), .int .i64 s1.idx] 23)) hcell
  have r1 := r0.alloc (.cells #[.string (runesBytes s1.buf), .int .i64 s1.idx] 23)
  have n1 := Rec.new w1 [.string (runesBytes s1.buf), .int .i64 s1.idx] 23
  have f0 := r1.cell 0 rfl
  have f1 := r1.cell 1 rfl
  have f2 := r1.free 0
  have f3 := r1.free 1
  have m0 := n1.cell 0 rfl
  have m1 := n1.cell 1 rfl
  have hwz : w.heap.size + 2 < w1.heap.size := r0.lt
  have p0 := r0.cell 0 rfl
  have p1 := r0.cell 1 rfl
  have p2 := r0.free 0
  have p3 := r0.free 1
  have hgn : gg ≠ w.heap.size + 1 + 1 := num_ne_rec (hN.num gg rfl).1 r0 (by decide)
  have hcx : ∀ u v, ((w1.setCell ⟨w.heap.size + 1 + 1, 0, none⟩ u).setCell ⟨w.heap.size + 1 + 1, 1, none⟩ v).cell? ⟨gg, 1, none⟩ = some (.int .i64 x) := fun u v => by
    rw [World.cell?_setCell_far _ ⟨w.heap.size + 1 + 1, 1, none⟩ ⟨gg, 1, none⟩ v (Ne.symm hgn), World.cell?_setCell_far _ ⟨w.heap.size + 1 + 1, 0, none⟩ ⟨gg, 1, none⟩ u (Ne.symm hgn)]
    exact hcell
  clear hN hK hrun hr0 hr1 hb
  go_wp2
  go_region
  have s1r := ((r0.set 0 (.string (runesBytes s1.buf))).set 1 (.int .i64 s1.idx)).alloc (.cells #[.string (runesBytes s1.buf), .int .i64 s1.idx] 23)
  have bb : Below w.heap.size w (((w1.setCell ⟨w.heap.size + 2, 0, none⟩ (.string (runesBytes s1.buf))).setCell ⟨w.heap.size + 2, 1, none⟩ (.int .i64 s1.idx)).alloc (.cells #[.string (runesBytes s1.buf), .int .i64 s1.idx] 23)).drew := ((below_put (below_put hb1 (by omega) 0 _) (by omega) 1 _).alloc (by have := hb1.size; simpa [World.setCell] using this) _).drew
  have e0 := s1r.drew.cell 0 rfl
  have e1 := s1r.drew.cell 1 rfl
  go_wp2
  exact bodyPost_ret (v := .tuple #[.agg #[.string (runesBytes s1.buf), .int .i64 s1.idx], .int .i64 x, .bool true]) (by simp [results, Tryd.results20, go_sem, e0, e1]) rfl ⟨rfl, bb⟩
def impl_KeyedOnce.f (t : ByteArray) (a : Int) (op : Int) (text : ByteArray) (n : Int) (flag back : Bool) : Option (ByteArray × Int × Int × Bool) := onceF t a ⟨op, text, n, flag, back⟩
theorem impl_KeyedOnce.calls (t : ByteArray) (a op : Int) (text : ByteArray) (n : Int) (flag back : Bool) (r1 : ByteArray) (r2 r3 : Int) (r4 : Bool) (w : World) (h : impl_KeyedOnce.f t a op text n flag back = some (r1, r2, r3, r4)) :
    Calls Tryd.prog 20 #[.agg #[.string t, .int .i64 a], .agg #[.int .i64 op, .string text, .int .i64 n, .bool flag, .bool back]] w fun e w' => e = .returned (.tuple #[.agg #[.string r1, .int .i64 r2], .int .i64 r3, .bool r4]) ∧ Below w.heap.size w w' := by
  unfold impl_KeyedOnce.f onceF at h
  split at h
  · rename_i s y x hk
    split at h
    · rename_i hs
      have h' := Option.some.inj h
      simp only [Prod.mk.injEq] at h'
      obtain ⟨rfl, rfl, rfl, rfl⟩ := h'
      exact once_calls t a ⟨op, text, n, flag, back⟩ s x y w hk hs
    · cases h
  · cases h
end Go.Proofs.YtdinikcfhpfojaaDoor.H
