/- A history of texts (goprompt.History): its state in memory, and what its steps make of it (NewHistory, Clear, Add); for at most 1000 texts. -/
import Derived.Test.YthbdaoapjnofkaaQHBufI
import Derived.Laws.OwnMore
import Derived.Deep.AppendLies
namespace Go.Proofs.Ythbdaoapjnofkaa.H
open Go.RowKit Go.Proofs.YthbdaoapjnofkaaW.PrintWords Go.Proofs.YthbdaoapjnofkaaW.PrintLast Go.Proofs.Ythbdaoapjnofkaa.R Go.Proofs.Ythbdaoapjnofkaa.X
set_option linter.unusedVariables false
set_option linter.unusedSimpArgs false
attribute [local go_sem ↓] Go.wp_at_zero Go.wp_at_succ
theorem info9 : (Try.prog.info? 9).map (fun i => (i.zero, i.size, i.bytes)) = some (some (.string ⟨#[]⟩), 1, 16) := by kernel_rfl
theorem info_parts {t : TypeId} {z : Value} {n b : Nat} (h : (Try.prog.info? t).map (fun i => (i.zero, i.size, i.bytes)) = some (some z, n, b)) : ∃ i, Try.prog.info? t = some i ∧ i.zero = some z ∧ i.size = n ∧ i.bytes = b := by
  cases hi : Try.prog.info? t with
  | none => rw [hi] at h; cases h
  | some i =>
    rw [hi] at h
    simp only [Option.map_some, Option.some.injEq, Prod.mk.injEq] at h
    exact ⟨i, rfl, h.1, h.2.1, h.2.2⟩
/-- A slice at the head of block g. -/
abbrev Sl (g n c : Nat) : Value := .slice (some ⟨g, 0, none⟩) n c
/-- A row of texts in block g, made behind N. -/
def SR (w : World) (N g c : Nat) (xs : List ByteArray) : Prop := w.ownsRow N 9 1 (Sl g xs.length c) xs.length (xs.map Value.string)
section
variable {N g c m : Nat} {w w1 w2 : World} {xs : List ByteArray} {t : TypeId} {l : List Value}
theorem SR.lt (h : SR w N g c xs) : N ≤ g ∧ g < w.heap.size := World.ownsRow.lt h g rfl
theorem SR.block (h : SR w N g c xs) : ∃ cur, w.heap[g]? = some (.cells cur 9 (0, 0)) := by
  obtain ⟨_, h | ⟨g', cap, cur, hv, _, hg, _⟩⟩ := h
  · simp [Sl] at h
  · simp only [Sl, Value.slice.injEq, Option.some.injEq, Addr.mk.injEq, and_true, true_and] at hv
    obtain ⟨rfl, -⟩ := hv
    exact ⟨cur, hg⟩
theorem SR.move (h : SR w N g c xs) (hk : w1.heap[g]? = w.heap[g]?) : SR w1 N g c xs := own_move h (fun k e => by
  have : g = k := by simpa [Value.ownBlock, Sl] using e
  exact this ▸ hk)
theorem SR.ne_rec (h : SR w N g c xs) (hr : Rec w m l t) (ht : t ≠ 9) : g ≠ m := by
  rintro rfl
  obtain ⟨cur, e⟩ := h.block
  have e := e.symm.trans (show w.heap[g]? = _ from hr)
  injection e with e; injection e with _ e
  exact ht e.symm
theorem SR.cell (h : SR w N g c xs) (i : Nat) (hi : i < xs.length) : w.cell? ⟨g, i, none⟩ = some (.string xs[i]) := by
  rw [World.ownsRow.cellAt h i (by omega), List.getElem?_map, List.getElem?_eq_getElem hi]; rfl
theorem SR.cell_is (h : SR w N g c xs) (i : Nat) {y : ByteArray} (hi : xs[i]? = some y) : w.cell? ⟨g, i, none⟩ = some (.string y) := by
  obtain ⟨hlt, rfl⟩ := List.getElem?_eq_some_iff.1 hi
  exact h.cell i hlt
theorem SR.free (h : SR w N g c xs) (i : Nat) : w.frozen? ⟨g, i, none⟩ = false := World.ownsRow.frozenAt h i
theorem SR.set (h : SR w N g c xs) (i : Nat) (s : ByteArray) : SR (w.setCell ⟨g, i, none⟩ (.string s)) N g c (xs.set i s) := by
  have := (World.ownsRow.stored h i (.string s)).1
  unfold SR
  rw [List.length_set, List.map_set]
  exact this
theorem SR.rec_stays (h : SR w N g c xs) (hr : Rec w m l t) (ht : t ≠ 9) (i : Nat) (u : Value) : SR (w.setCell ⟨m, i, none⟩ u) N g c xs := h.move (Below.heap_setCell w _ _ g (h.ne_rec hr ht))
end
/-- A history at block m: its texts in block gH, those that are shown in block gT. -/
def HS (w : World) (N m gH cH gT cT : Nat) (hl tl : List ByteArray) (sl0 : Int) : Prop :=
  Rec w m [Sl gH hl.length cH, Sl gT tl.length cT, .int .i64 sl0] 76 ∧ SR w N gH cH hl ∧ SR w N gT cT tl ∧ N ≤ m ∧ gH ≠ gT
section
variable {N m gH cH gT cT : Nat} {w w1 w2 : World} {hl tl : List ByteArray} {sl0 : Int}
theorem HS.size (h : HS w N m gH cH gT cT hl tl sl0) : N ≤ m ∧ m < w.heap.size ∧ gH < w.heap.size ∧ gT < w.heap.size ∧ N ≤ gH ∧ N ≤ gT ∧ gH ≠ m ∧ gT ≠ m := by
  obtain ⟨h1, h2, h3, h4, h5⟩ := h
  exact ⟨h4, h1.lt, h2.lt.2, h3.lt.2, h2.lt.1, h3.lt.1, h2.ne_rec h1 (by decide), h3.ne_rec h1 (by decide)⟩
theorem HS.move (h : HS w N m gH cH gT cT hl tl sl0) (hm : w1.heap[m]? = w.heap[m]?) (hH : w1.heap[gH]? = w.heap[gH]?) (hT : w1.heap[gT]? = w.heap[gT]?) : HS w1 N m gH cH gT cT hl tl sl0 := by
  obtain ⟨h1, h2, h3, h4, h5⟩ := h
  exact ⟨hm.trans h1, h2.move hH, h3.move hT, h4, h5⟩
theorem HS.stays (h : HS w N m gH cH gT cT hl tl sl0) (hb : Below w.heap.size w w1) : HS w1 N m gH cH gT cT hl tl sl0 := by
  obtain ⟨_, a, b, c, _⟩ := h.size
  exact h.move (hb.block _ a) (hb.block _ b) (hb.block _ c)
theorem HS.sel (h : HS w N m gH cH gT cT hl tl sl0) (s' : Int) : HS (w.setCell ⟨m, 2, none⟩ (.int .i64 s')) N m gH cH gT cT hl tl s' := by
  obtain ⟨h1, h2, h3, h4, h5⟩ := h
  exact ⟨h1.set 2 _, h2.rec_stays h1 (by decide) _ _, h3.rec_stays h1 (by decide) _ _, h4, h5⟩
theorem HS.put (h : HS w N m gH cH gT cT hl tl sl0) (i : Nat) (s : ByteArray) : HS (w.setCell ⟨gT, i, none⟩ (.string s)) N m gH cH gT cT hl (tl.set i s) sl0 := by
  have hz := h.size
  obtain ⟨h1, h2, h3, h4, h5⟩ := h
  refine ⟨?_, h2.move (Below.heap_setCell w _ _ gH h5), h3.set i s, h4, h5⟩
  rw [List.length_set]
  exact h1.other (by show m ≠ gT; omega) _
theorem HS.reads (h : HS w N m gH cH gT cT hl tl sl0) : w.cell? ⟨m, 0, none⟩ = some (Sl gH hl.length cH) ∧ w.cell? ⟨m, 1, none⟩ = some (Sl gT tl.length cT) ∧ w.cell? ⟨m, 2, none⟩ = some (.int .i64 sl0) ∧ w.frozen? ⟨m, 0, none⟩ = false ∧ w.frozen? ⟨m, 1, none⟩ = false ∧ w.frozen? ⟨m, 2, none⟩ = false :=
  ⟨h.1.cell 0 rfl, h.1.cell 1 rfl, h.1.cell 2 rfl, h.1.free 0, h.1.free 1, h.1.free 2⟩
end
theorem cell_one_at {w : World} {x : Value} {t : TypeId} {H : Nat} (h : w.heap.size = H) : ∀ j u, [x][j]? = some u → (w.alloc (.cells #[x] t)).cell? ((⟨H, 0, none⟩ : Addr).add j) = some u := h ▸ cell_one_new w x t
section
variable {N m gH cH gT cT g' cap : Nat} {w w4 : World} {hl tl : List ByteArray} {sl0 : Int} {s : ByteArray} {o : Obj}
theorem SR.grown {g c : Nat} {xs : List ByteArray} (ho : w4.ownsRow N 9 1 (Sl g' (xs.length + 1) cap) (xs.length + 1) (xs.map Value.string ++ [.string s])) : SR w4 N g' cap (xs ++ [s]) := by
  unfold SR
  rw [List.length_append, List.map_append]
  exact ho
/-- A text more is shown. -/
theorem HS.growT (h : HS w N m gH cH gT cT hl tl sl0) (hg : (w.alloc o).grownBy w4 (some gT)) (ho : w4.ownsRow N 9 1 (Sl g' (tl.length + 1) cap) (tl.length + 1) (tl.map Value.string ++ [.string s])) (hat : some gT = some g' ∨ g' = w.heap.size + 1) :
    Rec w4 m [Sl gH hl.length cH, Sl gT tl.length cT, .int .i64 sl0] 76 ∧ HS (w4.setCell ⟨m, 1, none⟩ (Sl g' (tl.length + 1) cap)) N m gH cH g' cap hl (tl ++ [s]) sl0 ∧ Only N m gT w (w4.setCell ⟨m, 1, none⟩ (Sl g' (tl.length + 1) cap)) := by
  have hz := h.size
  obtain ⟨h1, h2, h3, h4, h5⟩ := h
  have hk : ∀ k, k < w.heap.size → k ≠ gT → w4.heap[k]? = w.heap[k]? := fun k hk hne => (hg.block k (by simp; omega) (by intro e; injection e with e; exact hne e)).trans (Below.heap_alloc w o k hk)
  have r1 : Rec w4 m _ _ := (hk m hz.2.1 (by omega)).trans h1
  have r2 : SR w4 N gH cH hl := h2.move (hk gH hz.2.2.1 h5)
  have r3 : SR w4 N g' cap (tl ++ [s]) := SR.grown (g := gT) (c := cT) ho
  have hne : gH ≠ g' := by rcases hat with e | e <;> first | (injection e with e; omega) | omega
  have hB : Below N w w4 := ((Below.refl N w).alloc (by omega) o).trans ⟨hg.os, hg.tape, hg.output, hg.size, fun k hk' => hg.block k (by simp; omega) (by intro e; injection e with e; omega)⟩
  refine ⟨r1, ⟨?_, r2.rec_stays r1 (by decide) _ _, r3.rec_stays r1 (by decide) _ _, h4, hne⟩, Only.set (show Only N m gT w w4 from ⟨hB, fun k hk' _ hne => hk k hk' hne⟩) (.inl rfl) h4 _ _⟩
  have := r1.set 1 (Sl g' (tl.length + 1) cap)
  rw [List.length_append]
  exact this
/-- A text more is kept. -/
theorem HS.growH (h : HS w N m gH cH gT cT hl tl sl0) (hg : (w.alloc o).grownBy w4 (some gH)) (ho : w4.ownsRow N 9 1 (Sl g' (hl.length + 1) cap) (hl.length + 1) (hl.map Value.string ++ [.string s])) (hat : some gH = some g' ∨ g' = w.heap.size + 1) :
    Rec w4 m [Sl gH hl.length cH, Sl gT tl.length cT, .int .i64 sl0] 76 ∧ HS (w4.setCell ⟨m, 0, none⟩ (Sl g' (hl.length + 1) cap)) N m g' cap gT cT (hl ++ [s]) tl sl0 ∧ Only N m gH w (w4.setCell ⟨m, 0, none⟩ (Sl g' (hl.length + 1) cap)) ∧ (g' = gH ∨ w.heap.size ≤ g') := by
  have hz := h.size
  obtain ⟨h1, h2, h3, h4, h5⟩ := h
  have hk : ∀ k, k < w.heap.size → k ≠ gH → w4.heap[k]? = w.heap[k]? := fun k hk hne => (hg.block k (by simp; omega) (by intro e; injection e with e; exact hne e)).trans (Below.heap_alloc w o k hk)
  have r1 : Rec w4 m _ _ := (hk m hz.2.1 (by omega)).trans h1
  have r2 : SR w4 N gT cT tl := h3.move (hk gT hz.2.2.2.1 (by omega))
  have r3 : SR w4 N g' cap (hl ++ [s]) := SR.grown (g := gH) (c := cH) ho
  have hne : g' ≠ gT := by rcases hat with e | e <;> first | (injection e with e; omega) | omega
  have hB : Below N w w4 := ((Below.refl N w).alloc (by omega) o).trans ⟨hg.os, hg.tape, hg.output, hg.size, fun k hk' => hg.block k (by simp; omega) (by intro e; injection e with e; omega)⟩
  refine ⟨r1, ⟨?_, r3.rec_stays r1 (by decide) _ _, r2.rec_stays r1 (by decide) _ _, h4, hne⟩, Only.set (show Only N m gH w w4 from ⟨hB, fun k hk' _ hne => hk k hk' hne⟩) (.inl rfl) h4 _ _, by rcases hat with e | e <;> first | (injection e with e; exact .inl e.symm) | exact .inr (by omega)⟩
  have := r1.set 0 (Sl g' (hl.length + 1) cap)
  rw [List.length_append]
  exact this
end
theorem Only.thenNew {N m g : Nat} {w w1 w2 : World} (h : Only N m m w w1) (k : Only N m g w1 w2) (hg : w.heap.size ≤ g) : Only N m m w w2 :=
  ⟨h.1.trans k.1, fun i hi a _ => (k.2 i (Nat.lt_of_lt_of_le hi h.1.size) a (by omega)).trans (h.2 i hi a a)⟩
theorem Only.thenSame {N m g : Nat} {w w1 w2 : World} (h : Only N m g w w1) (k : Only N m m w1 w2) : Only N m g w w2 :=
  ⟨h.1.trans k.1, fun i hi a b => (k.2 i (Nat.lt_of_lt_of_le hi h.1.size) a a).trans (h.2 i hi a b)⟩
theorem HS.far {N m gH cH gT cT : Nat} {w w1 w2 : World} {hl tl : List ByteArray} {sl0 : Int} (h : HS w1 N m gH cH gT cT hl tl sl0) (hz : N ≤ m ∧ m < w.heap.size ∧ gH < w.heap.size ∧ gT < w.heap.size ∧ N ≤ gH ∧ N ≤ gT ∧ gH ≠ m ∧ gT ≠ m) (k : Only w.heap.size (w.heap.size + 1) w.heap.size w1.drew w2) : HS w2 N m gH cH gT cT hl tl sl0 := by
  have hs := h.size
  exact h.move (k.2 m (by show m < w1.heap.size; omega) (by omega) (by omega)) (k.2 gH (by show gH < w1.heap.size; omega) (by omega) (by omega)) (k.2 gT (by show gT < w1.heap.size; omega) (by omega) (by omega))
theorem Only.thenFar {N m g : Nat} {w w1 w2 : World} (h : Only N m g w w1) (k : Only w.heap.size (w.heap.size + 1) w.heap.size w1.drew w2) (hN : N ≤ w.heap.size) : Only N m g w w2 :=
  ⟨h.1.trans ((Below.drew (Below.refl N w1)).trans (k.1.mono hN)), fun i hi a b => (k.2 i (Nat.lt_of_lt_of_le hi h.1.size) (by omega) (by omega)).trans (h.2 i hi a b)⟩
theorem NewHistory_calls (w : World) : Calls Try.prog 20 #[] w fun e w' => e = .returned (Pt (w.heap.size + 2)) ∧ HS w' w.heap.size (w.heap.size + 2) w.heap.size 0 (w.heap.size + 1) 1 [] [⟨#[]⟩] 0 ∧ Below w.heap.size w w' := by
  have h0 : SR (w.alloc (.cells #[] 9)) w.heap.size w.heap.size 0 [] := World.ownsRow_lit w #[] 0 (Nat.le_refl _) (by decide) rfl
  have h1 : SR ((w.alloc (.cells #[] 9)).alloc (.cells #[.string ⟨#[]⟩] 9)) w.heap.size (w.heap.size + 1) 1 [⟨#[]⟩] := by
    have := World.ownsRow_lit (base := w.heap.size) (e := 9) (size := 1) (w.alloc (.cells #[] 9)) #[.string ⟨#[]⟩] 1 (by simp) (by decide) rfl
    rw [show (w.alloc (.cells #[] 9)).heap.size = w.heap.size + 1 by simp] at this
    exact this
  have h2 := Rec.at_ (b := w.heap.size + 2) ((w.alloc (.cells #[] 9)).alloc (.cells #[.string ⟨#[]⟩] 9)) [Sl w.heap.size 0 0, Sl (w.heap.size + 1) 1 1, .int .i64 0] 76 (by simp)
  have HX := Lib.hid (show HS (((w.alloc (.cells #[] 9)).alloc (.cells #[.string ⟨#[]⟩] 9)).alloc (.cells #[Sl w.heap.size 0 0, Sl (w.heap.size + 1) 1 1, .int .i64 0] 76)) w.heap.size (w.heap.size + 2) w.heap.size 0 (w.heap.size + 1) 1 [] [⟨#[]⟩] 0 from ⟨h2, (h0.move (Below.heap_alloc _ _ _ (by simp))).move (Below.heap_alloc _ _ _ (by simp; omega)), h1.move (Below.heap_alloc _ _ _ (by simp)), by omega, by omega⟩)
  have HB := Lib.hid ((((Below.refl w.heap.size w).alloc (Nat.le_refl _) (.cells #[] 9)).alloc (by simp) (.cells #[.string ⟨#[]⟩] 9)).alloc (by simp; omega) (.cells #[Sl w.heap.size 0 0, Sl (w.heap.size + 1) 1 1, .int .i64 0] 76))
  clear h0 h1 h2
  go_enter Try.func20, Try.ntmps20
  go_wp2
  go_ret
  exact ⟨rfl, HX.out, HB.out⟩
/-- Room for texts. -/
theorem make_texts (n : Nat) (hn : n ≤ 1000000) : ∃ cur : Array Value, cur.toList = List.replicate n (Value.string ⟨#[]⟩) ∧ ∀ w : World, (Instr.makeSlice 22 (.int .i64 (n : Int)) (.int .i64 (n : Int))).run Try.prog w = .ok (Sl w.heap.size n n) (w.alloc (.cells cur 9)) := by
  obtain ⟨i, hi, hz, h1, h2⟩ := info_parts info9
  refine ⟨madeCells #[.string ⟨#[]⟩] n, ?_, fun w => ?_⟩
  · simp [madeCells, List.eq_replicate_iff]
    intro a _
    rw [Nat.mod_one]
    rfl
  · have := run_makeSlice (P := Try.prog) (w := w) 22 9 i (.string ⟨#[]⟩) Try.underlying22 hi hz .i64 .i64 n n (by omega) (Int.le_refl _) (by rw [h1]; omega) (by rw [h2]; omega) (by omega)
    rw [h1] at this
    simpa [Value.cells] using this
theorem take_put {tl hl : List ByteArray} {i : Nat} (h : tl.take i = hl.take i) (h1 : i < tl.length) (h2 : i < hl.length) : (tl.set i hl[i]).take (i + 1) = hl.take (i + 1) := by
  rw [List.take_succ_eq_append_getElem (by simpa using h1), List.take_succ_eq_append_getElem h2, List.getElem_set_self, List.take_set_of_le (Nat.le_refl i), h]
set_option maxRecDepth 100000 in
set_option maxHeartbeats 4000000 in
theorem Clear_calls {N m gH cH gT cT : Nat} {w : World} {hl tl : List ByteArray} {sel : Int} (h : HS w N m gH cH gT cT hl tl sel) (hn : hl.length ≤ 1000) : Calls Try.prog 23 #[Pt m] w fun e w' => e = .returned (.tuple #[]) ∧ ∃ gT' cT', HS w' N m gH cH gT' cT' hl (hl ++ [⟨#[]⟩]) (hl.length : Int) ∧ w.heap.size ≤ gT' ∧ Only N m m w w' := by
  obtain ⟨cur, hcur, hmk⟩ := make_texts hl.length (by omega)
  obtain ⟨i0, hi, hz0, hz1, hz2⟩ := info_parts info9
  have HI := Lib.hid (And.intro hi (And.intro hz0 (And.intro hz1 hz2)))
  have hz := h.size
  have L0 : HS ((w.setCell ⟨m, 1, none⟩ (Sl w.heap.size hl.length hl.length)).alloc (.cells cur 9)) N m gH cH w.heap.size hl.length hl (List.replicate hl.length ⟨#[]⟩) sel ∧ Only N m m w ((w.setCell ⟨m, 1, none⟩ (Sl w.heap.size hl.length hl.length)).alloc (.cells cur 9)) := by
    obtain ⟨h1, h2, h3, h4, h5⟩ := h
    have hcz : cur.size = hl.length := by rw [← Array.length_toList, hcur, List.length_replicate]
    have hsz : (w.setCell ⟨m, 1, none⟩ (Sl w.heap.size hl.length hl.length)).heap.size = w.heap.size := by simp
    have s1 : SR ((w.setCell ⟨m, 1, none⟩ (Sl w.heap.size hl.length hl.length)).alloc (.cells cur 9)) N w.heap.size hl.length (List.replicate hl.length ⟨#[]⟩) := by
      unfold SR
      rw [List.length_replicate, List.map_replicate, ← hcur]
      have := World.ownsRow_lit (base := N) (e := 9) (size := 1) (w.setCell ⟨m, 1, none⟩ (Sl w.heap.size hl.length hl.length)) cur hl.length (by omega) (by unfold maxLen; omega) (by omega)
      rw [hsz] at this
      exact this
    refine ⟨⟨?_, (h2.rec_stays h1 (by decide) _ _).move (Below.heap_alloc _ _ _ (by rw [hsz]; omega)), s1, h4, by omega⟩, ((Only.refl N m m w).set (.inl rfl) h4 _ _).alloc (by rw [hsz]; omega) _⟩
    have := (h1.set 1 (Sl w.heap.size hl.length hl.length)).alloc (.cells cur 9)
    rw [List.length_replicate]
    exact this
  have hr := h.reads
  obtain ⟨k0, k1, k2, z0, z1, z2⟩ := hr
  have HL0 := Lib.hid L0
  have r0 := L0.1.reads
  obtain ⟨j0, j1, j2, -, -, -⟩ := r0
  rw [List.length_replicate] at j1
  clear h hcur hi hz0 hz1 hz2 L0
  go_enter Try.func23, Try.ntmps23
  go_wp2
  go_loopw [17] (fun vi wr => ∃ (i : Nat) (tr : List ByteArray), i ≤ hl.length ∧ vi = .int .i64 i ∧ tr.length = hl.length ∧ tr.take i = hl.take i ∧ HS wr N m gH cH w.heap.size hl.length hl tr sel ∧ Only N m m w wr) (fun vi _ => hl.length - (intOf vi).toNat)
  case atStart => exact ⟨0, List.replicate hl.length ⟨#[]⟩, Nat.zero_le _, rfl, List.length_replicate, by simp, HL0.out.1, HL0.out.2⟩
  case round =>
    obtain ⟨i, tr, hil, rfl, htl, htk, hS, hO⟩ := hrel
    have HT := Lib.hid (And.intro htl (And.intro htk (And.intro hS hO)))
    obtain ⟨q0, q1, q2, y0, y1, y2⟩ := hS.reads
    rw [htl] at q1
    by_cases hlt : i < hl.length
    · have ch := hS.2.1.cell i hlt
      have ct := hS.2.2.1.cell i (by omega)
      have zt := hS.2.2.1.free i
      clear htk hS hO
      go_wp2
      go_region
      have H2 : HS (wr.setCell ⟨w.heap.size, i, none⟩ (.string hl[i])).drew N m gH cH w.heap.size hl.length hl (tr.set i hl[i]) sel := (HS.put HT.out.2.2.1 i hl[i]).stays ((Below.refl _ _).drew)
      have O2 : Only N m m w (wr.setCell ⟨w.heap.size, i, none⟩ (.string hl[i])).drew := ((HT.out.2.2.2).set (.inr (.inr (Nat.le_refl _))) (by omega) _ _).drew
      have HT2 := Lib.hid (And.intro H2 O2)
      have hp := take_put HT.out.2.1 (by omega) hlt
      clear H2 O2
      go_wp2
      go_roundw
      case rel => exact ⟨i + 1, tr.set i hl[i], by omega, by go_num, by rw [List.length_set]; exact htl, hp, HT2.out.1, HT2.out.2⟩
      case measure => simp only [intOf]; omega
    · have hi : i = hl.length := by omega
      subst hi
      have htr : tr = hl := by rw [← List.take_length (l := tr), htl, htk, List.take_length]
      subst htr
      have hOwn : wr.ownsRow N 9 1 (Sl w.heap.size tr.length tr.length) tr.length (tr.map Value.string) := hS.2.2.1
      obtain ⟨T, ct, hVT⟩ : ∃ (T : Option Addr) (ct : Nat), Value.slice T tr.length ct = Sl w.heap.size tr.length tr.length := ⟨_, _, rfl⟩
      have hob : (Value.slice T tr.length ct).ownBlock = some w.heap.size := by rw [hVT]; rfl
      rw [← hVT] at q1 hOwn
      have HV := Lib.hid (And.intro hob hOwn)
      have HW := Lib.hid (And.intro hS hO)
      clear htl htk hS hVT hob hOwn hO
      go_wp2_with (first
        | (at_builtin; refine wpList_append_lies _ rfl (.tmp 38) (.tmp 39) _ rfl N 9 i0 (.string ⟨#[]⟩) 1 16 Try.underlying22 HI.out.1 HI.out.2.1 HI.out.2.2.1 HI.out.2.2.2 rfl (by omega) (.slice T tr.length ct) tr.length (tr.map Value.string) rfl (World.ownsRow.alloc HV.out.2 _) ⟨wr.heap.size, 0, none⟩ 1 1 [.string ⟨#[]⟩] rfl rfl (cell_one_at (by simp)) (by simp [Value.oneCell']) (by omega) (by unfold maxLen; omega) (by omega) (by have := HW.out.1.size; simp; omega) (wr.heap.size + 1) (by simp) ?_; intro g' cap w4 ho4 hg4 hat4 hlt4; rw [HV.out.1] at hg4 hat4; obtain ⟨b1, b2, b3⟩ := HW.out.1.growT hg4 ho4 hat4; have m0 := b1.cell 0 rfl; have m1 := b1.cell 1 rfl; have m2 := b1.cell 2 rfl; have f1 := b1.free 1; have f2 := b1.free 2; have B2 := Lib.hid (And.intro b2 b3); have B4 := Lib.hid hat4; clear b1 b2 b3 ho4 hg4 hat4))
      go_end0
      have hsl : IntKind.i64.wrap (((tr.length + 1 : Nat) : Int) - 1) = (tr.length : Int) := by rw [IntWalk.i64_in _ (by omega)]; omega
      have b4 := B2.out.1.sel (tr.length : Int)
      have hsz := HW.out.2.1.size
      refine ⟨rfl, g', ⟨cap, b4⟩, by rcases B4.out with e | e <;> first | (injection e with e; omega) | omega, ?_⟩
      exact ((HW.out.2.thenNew B2.out.2 (Nat.le_refl _)).set (.inl rfl) (by omega) _ _)
set_option maxRecDepth 100000 in
set_option maxHeartbeats 4000000 in
theorem Add_calls {N m gH cH gT cT : Nat} {w : World} {hl tl : List ByteArray} {sel : Int} (h : HS w N m gH cH gT cT hl tl sel) (hn : hl.length ≤ 999) (s : ByteArray) : Calls Try.prog 22 #[Pt m, .string s] w fun e w' => e = .returned (.tuple #[]) ∧ ∃ gH' cH' gT' cT', HS w' N m gH' cH' gT' cT' (hl ++ [s]) (hl ++ [s] ++ [⟨#[]⟩]) ((hl ++ [s]).length : Int) ∧ (gH' = gH ∨ w.heap.size ≤ gH') ∧ w.heap.size ≤ gT' ∧ Only N m gH w w' := by
  obtain ⟨i0, hi, hz0, hz1, hz2⟩ := info_parts info9
  have HI := Lib.hid (And.intro hi (And.intro hz0 (And.intro hz1 hz2)))
  have hz := h.size
  obtain ⟨q0, -, -, z0, -, -⟩ := h.reads
  have hOwn : w.ownsRow N 9 1 (Sl gH hl.length cH) hl.length (hl.map Value.string) := h.2.1
  obtain ⟨T, ct, hVT⟩ : ∃ (T : Option Addr) (ct : Nat), Value.slice T hl.length ct = Sl gH hl.length cH := ⟨_, _, rfl⟩
  have hob : (Value.slice T hl.length ct).ownBlock = some gH := by rw [hVT]; rfl
  rw [← hVT] at q0 hOwn
  have HV := Lib.hid (And.intro hob hOwn)
  have HW := Lib.hid h
  clear h hVT hob hOwn hi hz0 hz1 hz2
  go_enter Try.func22, Try.ntmps22
  go_wp2_with (first
    | (at_builtin; refine wpList_append_lies _ rfl (.tmp 8) (.tmp 10) _ rfl N 9 i0 (.string ⟨#[]⟩) 1 16 Try.underlying22 HI.out.1 HI.out.2.1 HI.out.2.2.1 HI.out.2.2.2 rfl (by omega) (.slice T hl.length ct) hl.length (hl.map Value.string) rfl (World.ownsRow.alloc HV.out.2 _) ⟨w.heap.size, 0, none⟩ 1 1 [.string s] rfl rfl (cell_one_at (by simp)) (by simp [Value.oneCell']) (by omega) (by unfold maxLen; omega) (by omega) (by simp; omega) (w.heap.size + 1) (by simp) ?_; intro g' cap w4 ho4 hg4 hat4 hlt4; rw [HV.out.1] at hg4 hat4; obtain ⟨b1, b2, b3⟩ := HW.out.growH hg4 ho4 hat4; have m0 := b1.cell 0 rfl; have m1 := b1.cell 1 rfl; have m2 := b1.cell 2 rfl; have f0 := b1.free 0; have B2 := Lib.hid (And.intro b2 b3); clear b1 b2 b3 ho4 hg4 hat4)
    | (go_at_call 23; refine (Clear_calls B2.out.1 (by simp; omega)).mono ?_; rintro e w5 ⟨rfl, gT', cT', hS5, hg5, hO5⟩; have HS5 := Lib.hid (And.intro hS5 (And.intro hg5 hO5)); clear hS5 hg5 hO5))
  go_end0
  obtain ⟨hS5, hg5, hO5⟩ := HS5.out
  have hsz := B2.out.2.1.1.size
  exact ⟨rfl, g', cap, gT', cT', hS5, B2.out.2.2, by omega, B2.out.2.1.thenSame hO5⟩
set_option maxHeartbeats 4000000 in
theorem OlderNot_calls {N m gH cH gT cT bm : Nat} {w : World} {hl tl : List ByteArray} {k : Nat} (h : HS w N m gH cH gT cT hl tl (k : Int)) (hk : k < tl.length) (hn : tl.length ≤ 100000) (hc : tl.length = 1 ∨ k = 0) : Calls Try.prog 24 #[Pt m, Pt bm] w fun e w' => e = .returned (.tuple #[Pt bm, .bool false]) ∧ ∃ n, w' = w.drewN n := by
  obtain ⟨q0, q1, q2, z0, z1, z2⟩ := h.reads
  have HH := Lib.hid h
  clear h
  have e1 : tl.length = 1 → (((tl.length : Nat) : Int) == 1) = true := fun e => by rw [e]; rfl
  by_cases h1 : tl.length = 1
  · have e2 := e1 h1
    clear e1
    go_enter Try.func24, Try.ntmps24
    go_wp2
    go_ret2
    exact ⟨rfl, 0, rfl⟩
  · have e2 : (((tl.length : Nat) : Int) == 1) = false := beq_eq_false_iff_ne.2 (by omega)
    obtain rfl : k = 0 := by omega
    clear e1
    go_enter Try.func24, Try.ntmps24
    go_wp2
    go_ret2
    exact ⟨rfl, 0, rfl⟩
set_option maxRecDepth 100000 in
set_option maxHeartbeats 8000000 in
theorem Older_calls {N m gH cH gT cT B bm bg : Nat} {p q : Int} {w : World} {hl tl : List ByteArray} {k k1 : Nat} {x y : ByteArray} (h : HS w N m gH cH gT cT hl tl (k : Int)) (hb : BS w B bm bg x p q) (hk : k < tl.length) (hn : tl.length ≤ 100000) (hc : k1 + 1 = k) (hkn : k1 < tl.length) (hy : tl[k1]? = some y) (hya : Asc y) (hyz : y.size ≤ 1000000) : Calls Try.prog 24 #[Pt m, Pt bm] w fun e w' => ∃ B2 m2 g2 p2 q2, e = .returned (.tuple #[Pt m2, .bool true]) ∧ BS w' B2 m2 g2 y p2 q2 ∧ HS w' N m gH cH gT cT hl (tl.set k x) (k1 : Int) ∧ Only N m gT w w' := by
  obtain ⟨q0, q1, q2, z0, z1, z2⟩ := h.reads
  have hyk : (tl.set k x)[k1]? = some y := by rw [List.getElem?_set_ne (by omega)]; exact hy
  have hsz := h.size
  have tc := h.2.2.1.cell k hk
  have tz := h.2.2.1.free k
  have H1 := Lib.hid (fun j => ((h.stays (pw_below_drewN (Below.refl _ _) j)).put k x).sel (k1 : Int))
  have O1 := Lib.hid (fun j => ((((Only.refl N m gT w).drewN j).set (.inr (.inl rfl)) hsz.2.2.2.2.2.1 k (.string x)).set (.inl rfl) hsz.1 2 (.int .i64 (k1 : Int))))
  have hyE : (⟨#[]⟩ : ByteArray).extract 0 0 ++ y ++ (⟨#[]⟩ : ByteArray).extract 0 (⟨#[]⟩ : ByteArray).size = y := ints_inj (by rw [ints_append, ints_append, ints_extract, ints_extract]; simp [ints])
  have HY := Lib.hid (And.intro hyE (And.intro hyz (And.intro hya hyk)))
  have HH := Lib.hid h
  have HB := Lib.hid hb
  have hw1 : IntKind.i64.wrap ((k : Int) - 1) = (k1 : Int) := by rw [IntWalk.i64_in _ (by omega)]; omega
  have e2 : (((tl.length : Nat) : Int) == 1) = false := beq_eq_false_iff_ne.2 (by omega)
  have e3 : ((k : Int) == 0) = false := beq_eq_false_iff_ne.2 (by omega)
  clear h hb hc hyE hyz hya hyk hy
  go_enter Try.func24, Try.ntmps24
  go_wp2
  go_region_law (first
    | (go_simp; go_at_call 25; refine (Text_calls (by first | exact HB.out.drewN 1 | exact HB.out | exact HB.out.drewN 2)).mono ?_; rintro e w3 ⟨rfl, n3, rfl⟩))
  all_goals
    go_wp2_with (go_at_call 41; refine (NewBuffer_calls _).mono ?_; rintro e w5 ⟨rfl, hB5, hb5⟩; have S5 := (H1.out _).stays hb5; have P5 := (O1.out _).behind hb5 (by simp; omega); have r1 := S5.reads.2.1; rw [List.length_set] at r1; have r2 := S5.reads.2.2.1; have r3 := S5.2.2.1.cell_is _ HY.out.2.2.2; have hB5s : BS w5 w.heap.size (w.heap.size + 1) w.heap.size ⟨#[]⟩ 0 (-1) := (by simpa using hB5); have X5 := Lib.hid (And.intro S5 (And.intro P5 hB5s)); clear S5 P5 hB5 hB5s hb5)
    have HK := Lib.hid hkn
    have HZ := Lib.hid hsz
    clear q0 q1 q2 z0 z1 z2 tc tz H1 O1 HH HB hsz
    go_still_tail 11, (by kernel_rfl)
    change wpList _ _ _ _ _ w5.drew
    go_wp2_with (go_at_call 43; refine (Insert_calls (p := 0) (X5.out.2.2.below ((Below.refl _ _).drew)) (by intro b hb; simp at hb) (by show (0 : Nat) ≤ _; omega) (Nat.zero_le _) y HY.out.2.1 HY.out.2.2.1).mono ?_; rintro e w6 ⟨rfl, hB6, hO6⟩; have X6 := Lib.hid (And.intro hB6 hO6); clear hB6 hO6)
    go_ret2
    exact ⟨_, _, _, _, _, rfl, HY.out.1 ▸ X6.out.1, X5.out.1.far HZ.out X6.out.2, X5.out.2.1.thenFar X6.out.2 (by have := HZ.out; omega)⟩
set_option maxHeartbeats 4000000 in
theorem NewerNot_calls {N m gH cH gT cT bm : Nat} {w : World} {hl tl : List ByteArray} {k : Nat} (h : HS w N m gH cH gT cT hl tl (k : Int)) (hk : k < tl.length) (hn : tl.length ≤ 100000) (hc : tl.length ≤ k + 1) : Calls Try.prog 26 #[Pt m, Pt bm] w fun e w' => e = .returned (.tuple #[Pt bm, .bool false]) ∧ ∃ n, w' = w.drewN n := by
  obtain ⟨q0, q1, q2, z0, z1, z2⟩ := h.reads
  have HH := Lib.hid h
  clear h
  have hw : IntKind.i64.wrap (((tl.length : Nat) : Int) - 1) = ((tl.length : Nat) : Int) - 1 := IntWalk.i64_in _ (by omega)
  go_enter Try.func26, Try.ntmps26
  go_wp2
  go_region
  go_wp2
  go_ret2
  exact ⟨rfl, 1, rfl⟩
set_option maxRecDepth 100000 in
set_option maxHeartbeats 8000000 in
theorem Newer_calls {N m gH cH gT cT B bm bg : Nat} {p q : Int} {w : World} {hl tl : List ByteArray} {k k1 : Nat} {x y : ByteArray} (h : HS w N m gH cH gT cT hl tl (k : Int)) (hb : BS w B bm bg x p q) (hk : k < tl.length) (hn : tl.length ≤ 100000) (hc : k1 = k + 1) (hkn : k1 < tl.length) (hy : tl[k1]? = some y) (hya : Asc y) (hyz : y.size ≤ 1000000) : Calls Try.prog 26 #[Pt m, Pt bm] w fun e w' => ∃ B2 m2 g2 p2 q2, e = .returned (.tuple #[Pt m2, .bool true]) ∧ BS w' B2 m2 g2 y p2 q2 ∧ HS w' N m gH cH gT cT hl (tl.set k x) (k1 : Int) ∧ Only N m gT w w' := by
  obtain ⟨q0, q1, q2, z0, z1, z2⟩ := h.reads
  have hyk : (tl.set k x)[k1]? = some y := by rw [List.getElem?_set_ne (by omega)]; exact hy
  have hsz := h.size
  have tc := h.2.2.1.cell k hk
  have tz := h.2.2.1.free k
  have H1 := Lib.hid (fun j => ((h.stays (pw_below_drewN (Below.refl _ _) j)).put k x).sel (k1 : Int))
  have O1 := Lib.hid (fun j => ((((Only.refl N m gT w).drewN j).set (.inr (.inl rfl)) hsz.2.2.2.2.2.1 k (.string x)).set (.inl rfl) hsz.1 2 (.int .i64 (k1 : Int))))
  have hyE : (⟨#[]⟩ : ByteArray).extract 0 0 ++ y ++ (⟨#[]⟩ : ByteArray).extract 0 (⟨#[]⟩ : ByteArray).size = y := ints_inj (by rw [ints_append, ints_append, ints_extract, ints_extract]; simp [ints])
  have HY := Lib.hid (And.intro hyE (And.intro hyz (And.intro hya hyk)))
  have HH := Lib.hid h
  have HB := Lib.hid hb
  have hw1 : IntKind.i64.wrap ((k : Int) + 1) = (k1 : Int) := by rw [IntWalk.i64_in _ (by omega)]; omega
  have hw : IntKind.i64.wrap (((tl.length : Nat) : Int) - 1) = ((tl.length : Nat) : Int) - 1 := IntWalk.i64_in _ (by omega)
  have e2 : ¬ (((tl.length : Nat) : Int) - 1 ≤ (k : Int)) := by omega
  clear h hb hc hyE hyz hya hyk hy
  go_enter Try.func26, Try.ntmps26
  go_wp2
  go_region
  go_wp2
  go_region_law (first
    | (go_simp; go_at_call 25; refine (Text_calls (by first | exact HB.out.drewN 1 | exact HB.out | exact HB.out.drewN 2)).mono ?_; rintro e w3 ⟨rfl, n3, rfl⟩))
  all_goals
    go_wp2_with (go_at_call 41; refine (NewBuffer_calls _).mono ?_; rintro e w5 ⟨rfl, hB5, hb5⟩; have S5 := (H1.out _).stays hb5; have P5 := (O1.out _).behind hb5 (by simp; omega); have r1 := S5.reads.2.1; rw [List.length_set] at r1; have r2 := S5.reads.2.2.1; have r3 := S5.2.2.1.cell_is _ HY.out.2.2.2; have hB5s : BS w5 w.heap.size (w.heap.size + 1) w.heap.size ⟨#[]⟩ 0 (-1) := (by simpa using hB5); have X5 := Lib.hid (And.intro S5 (And.intro P5 hB5s)); clear S5 P5 hB5 hB5s hb5)
    have HK := Lib.hid hkn
    have HZ := Lib.hid hsz
    clear q0 q1 q2 z0 z1 z2 tc tz H1 O1 HH HB hsz
    go_still_tail 11, (by kernel_rfl)
    change wpList _ _ _ _ _ w5.drew
    go_wp2_with (go_at_call 43; refine (Insert_calls (p := 0) (X5.out.2.2.below ((Below.refl _ _).drew)) (by intro b hb; simp at hb) (by show (0 : Nat) ≤ _; omega) (Nat.zero_le _) y HY.out.2.1 HY.out.2.2.1).mono ?_; rintro e w6 ⟨rfl, hB6, hO6⟩; have X6 := Lib.hid (And.intro hB6 hO6); clear hB6 hO6)
    go_ret2
    exact ⟨_, _, _, _, _, rfl, HY.out.1 ▸ X6.out.1, X5.out.1.far HZ.out X6.out.2, X5.out.2.1.thenFar X6.out.2 (by have := HZ.out; omega)⟩
end Go.Proofs.Ythbdaoapjnofkaa.H
