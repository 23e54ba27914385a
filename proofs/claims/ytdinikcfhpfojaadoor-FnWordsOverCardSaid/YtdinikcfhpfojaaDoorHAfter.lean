/- The line after some steps on a line (laws.after9): the contract by which the laws take it; of steps that fail, and of those that put in, or take out by words, nothing is said. -/
import Derived.Test.YtdinikcfhpfojaaDoorHOnce
namespace Go.Proofs.YtdinikcfhpfojaaDoor.H
open Go.RowKit Go.Proofs.YtdinikcfhpfojaaDoorW.PrintWords Go.Proofs.YtdinikcfhpfojaaDoorW.PrintLast Go.Proofs.YtdinikcfhpfojaaDoor.R
set_option linter.unusedVariables false
set_option linter.unusedSimpArgs false
attribute [local go_sem ↓] Go.wp_at_zero Go.wp_at_succ

theorem info29 : (Tryd.prog.info? 29).map (fun i => (i.zero, i.size, i.bytes)) = some (some (.agg #[.int .i64 0, .string ⟨#[]⟩, .int .i64 0, .bool false, .bool false]), 5, 40) := by kernel_rfl
theorem append_nil_any (w : World) (base : Nat) (t ty e : TypeId) (i : TypeInfo) (size : Nat) (ht : Tryd.prog.underlying t = some (.slice e)) (hi : Tryd.prog.info? e = some i)
    (v : Value) (n : Nat) (xs : List Value) (hown : w.ownsRow base e size v n xs) (c : Nat) : (Builtin.append_ #[t, t] ty #[v, .slice none 0 c]).run Tryd.prog w = .ok v w := by
  rcases hown.2 with ⟨rfl, rfl⟩ | ⟨g, cap, cur, rfl, _, _, hnc, _⟩
  · simp [Builtin.append_, run_underlying ht, sizeOf, typeInfo, hi, Builtin.lenOf, Builtin.firstCells]
  · simp [Builtin.append_, run_underlying ht, sizeOf, typeInfo, hi, Builtin.lenOf, Builtin.firstCells, hnc, storeCells]
/-- A slice of steps, as the append reads it. -/
def Src5 (w : World) (A : Option Addr) (ys : List Key5) : Prop := (A = none ∧ ys = []) ∨ ∃ ad, A = some ad ∧ ∀ j u, (flat5 ys)[j]? = some u → w.cell? (ad.add j) = some u
theorem run_append5 (W : World) (B ty g cap : Nat) (xs : List Key5) (h0 : 0 < xs.length) (hown : W.ownsRow B 29 5 (.slice (some ⟨g, 0, none⟩) xs.length cap) xs.length (flat5 xs)) (A : Option Addr) (m c : Nat) (ys : List Key5) (hm : m = ys.length) (hs : Src5 W A ys) (hl : xs.length + ys.length ≤ 1000000) (hB : B ≤ W.heap.size) :
    ∃ g' cap' W', (Builtin.append_ #[26, 26] ty #[.slice (some ⟨g, 0, none⟩) xs.length cap, .slice A m c]).run Tryd.prog W = .ok (.slice (some ⟨g', 0, none⟩) (xs.length + m) cap') W' ∧ W'.ownsRow B 29 5 (.slice (some ⟨g', 0, none⟩) (xs.length + m) cap') (xs.length + m) (flat5 (xs ++ ys)) ∧ W.grownBy W' (some g) ∧ g' < W'.heap.size := by
  subst hm
  obtain ⟨i0, hi, hz0, hz1, hz2⟩ := info_parts info29
  have hlt : g < W.heap.size := by obtain ⟨g2, c2, e, _, hlt⟩ := hown.form h0; injection e with e; injection e with e; injection e with e; omega
  rcases hs with ⟨rfl, rfl⟩ | ⟨ad, rfl, hc⟩
  · have hr := append_nil_any W B 26 ty 29 i0 5 Tryd.underlying26 hi _ _ _ hown c
    refine ⟨g, cap, W, hr, by rw [List.append_nil]; exact hown, World.grownBy.refl W _, hlt⟩
  · obtain ⟨v', w', hr, h2, h3, _, h5⟩ := run_append_own_at (P := Tryd.prog) W B 26 ty 29 i0 _ 5 40 Tryd.underlying26 hi hz0 hz1 hz2 rfl (by omega) _ xs.length _ hown ad ys.length c (flat5 ys) (flat5_length ys) hc
      (fun u hu => by
        unfold flat5 at hu
        obtain ⟨k, _, hk⟩ := List.mem_flatMap.1 hu
        simp only [cells5, List.mem_cons, List.not_mem_nil, or_false] at hk
        rcases hk with rfl | rfl | rfl | rfl | rfl <;> rfl) (by unfold maxLen; omega) (by omega) hB
    obtain ⟨g', cap', rfl, _, hlt'⟩ := h2.form (by omega)
    exact ⟨g', cap', w', hr, by rw [show flat5 (xs ++ ys) = flat5 xs ++ flat5 ys by simp [flat5]]; exact h2, h3, hlt'⟩
theorem wpList_append5 {w : World} {ops : Array Oper} {rest : List Oper} {o : Oper} {a : Act} {Q : Exit → Act → World → Prop} (hgd : o.guard = none) (s x : Operand) (ho : o.op = .call { callee := .builtin .append, args := #[s, x], argTypes := #[26, 26] }) (B g cap : Nat) (xs : List Key5) (h0 : 0 < xs.length) (hs : a.eval s = .slice (some ⟨g, 0, none⟩) xs.length cap)
    (hown : w.ownsRow B 29 5 (.slice (some ⟨g, 0, none⟩) xs.length cap) xs.length (flat5 xs)) (A : Option Addr) (m c : Nat) (ys : List Key5) (hm : m = ys.length) (hx : a.eval x = .slice A m c) (hsrc : Src5 w A ys) (hl : xs.length + ys.length ≤ 1000000) (hB : B ≤ w.heap.size)
    (h : ∀ g' cap' w', w'.ownsRow B 29 5 (.slice (some ⟨g', 0, none⟩) (xs.length + m) cap') (xs.length + m) (flat5 (xs ++ ys)) → w.grownBy w' (some g) → g' < w'.heap.size → wpList Tryd.prog ops Q rest (a.put o.dst (.slice (some ⟨g', 0, none⟩) (xs.length + m) cap')) w') : wpList Tryd.prog ops Q (o :: rest) a w :=
  wpList_plain hgd fun _ hK => by
    obtain ⟨g', cap', w', hr, h2, h3, h4⟩ := run_append5 w B o.type g cap xs h0 hown A m c ys hm hsrc hl hB
    unfold Oper.wp execOp
    simp only [ho, resolve, invoke, builtin, Sem.run_bind, Sem.run_pure, Result.andThen_ok, List.map_toArray, List.map_cons, List.map_nil, hs, hx, hr]
    exact hK _ _ (h g' cap' w' h2 h3 h4)
def afterF (t : ByteArray) (a : Int) (l : List Key5) : Option (ByteArray × Int × Bool) :=
  if l.length ≤ 100000 then (match krun ⟨[], 0, []⟩ (⟨20, t, a, false, false⟩ :: l) with
  | some (s, _) => if s.buf.length ≤ 1000000000 then some (runesBytes s.buf, s.idx, true) else none
  | none => none) else none
set_option maxRecDepth 100000 in
set_option maxHeartbeats 4000000 in
theorem after_calls (t : ByteArray) (a : Int) (A : Option Addr) (c : Nat) (l : List Key5) (s1 : KS) (ts : List Int) (w : World) (hl : l.length ≤ 100000) (hsrc : Src5 w A l) (hrun : krun ⟨[], 0, []⟩ (⟨20, t, a, false, false⟩ :: l) = some (s1, ts)) (hs1 : s1.buf.length ≤ 1000000000) :
    Calls Tryd.prog 15 #[.agg #[.string t, .int .i64 a], .slice A l.length c] w fun e w' => e = .returned (.tuple #[.agg #[.string (runesBytes s1.buf), .int .i64 s1.idx], .bool true]) ∧ Below w.heap.size w w' := by
  have b3 : Below w.heap.size w (((w.alloc (.cells #[.string t, .int .i64 a] 23)).alloc (.cells #[.string ⟨#[]⟩, .int .i64 0] 23)).alloc (.cells (flat5 [⟨20, t, a, false, false⟩]).toArray 29)) := (((Below.refl _ _).alloc (Nat.le_refl _) _).alloc (by simp) _).alloc (by simp; omega) _
  have hsrc3 : Src5 (((w.alloc (.cells #[.string t, .int .i64 a] 23)).alloc (.cells #[.string ⟨#[]⟩, .int .i64 0] 23)).alloc (.cells (flat5 [⟨20, t, a, false, false⟩]).toArray 29)) A l := by
    rcases hsrc with h | ⟨ad, rfl, hc⟩
    · exact .inl h
    · exact .inr ⟨ad, rfl, fun j u hu => pw_cell_below b3 (hc j u hu)⟩
  have r3 := Rec.at_ (b := w.heap.size + 2) ((w.alloc (.cells #[.string t, .int .i64 a] 23)).alloc (.cells #[.string ⟨#[]⟩, .int .i64 0] 23)) (flat5 [⟨20, t, a, false, false⟩]) 29 (by simp)
  have own3 : (((w.alloc (.cells #[.string t, .int .i64 a] 23)).alloc (.cells #[.string ⟨#[]⟩, .int .i64 0] 23)).alloc (.cells (flat5 [⟨20, t, a, false, false⟩]).toArray 29)).ownsRow w.heap.size 29 5 (.slice (some ⟨w.heap.size + 2, 0, none⟩) 1 1) 1 (flat5 [⟨20, t, a, false, false⟩]) :=
    ⟨rfl, .inr ⟨w.heap.size + 2, 1, _, rfl, by omega, r3, Nat.le_refl _, by unfold maxLen; omega, rfl, rfl⟩⟩
  have hr1 := (Rec.at_ (b := w.heap.size + 1) (w.alloc (.cells #[.string t, .int .i64 a] 23)) [.string ⟨#[]⟩, .int .i64 0] 23 (by simp)).alloc (.cells (flat5 [⟨20, t, a, false, false⟩]).toArray 29)
  have HH := Lib.hid (And.intro hsrc3 (And.intro own3 (And.intro hr1 b3)))
  clear hsrc3 own3 hr1 b3 r3 hsrc
  go_enter Tryd.func15, Tryd.ntmps15
  go_wp2_with (at_builtin; refine wpList_append5 rfl (.tmp 15) (.tmp 16) rfl w.heap.size (w.heap.size + 2) 1 [⟨20, t, a, false, false⟩] (by simp) rfl HH.out.2.1 A l.length c l rfl rfl HH.out.1 (by simp; omega) (by simp; omega) ?_; intro g' cap' w4 ho4 hg4 hlt4)
  have hb4 : Below w.heap.size w w4 := (HH.out.2.2.2).grown hg4 (by simp; omega) (fun k hk => by injection hk with hk; omega)
  have e1 : 1 + l.length = ((⟨20, t, a, false, false⟩ : Key5) :: l).length := by rw [List.length_cons]; omega
  have hK : KR w4 w4.heap.size (some ⟨g', 0, none⟩) (⟨20, t, a, false, false⟩ :: l) := KR_of hlt4 (fun j u hu => by
    have := World.ownsRow.cells ho4 (g := g') rfl j u hu
    rwa [show (⟨g', 0, none⟩ : Addr).add j = ⟨g', j, none⟩ by unfold Addr.add; split <;> simp_all] at this)
  have hcap : ((⟨20, t, a, false, false⟩ : Key5) :: l).length ≤ cap' := by
    rcases ho4.2 with ⟨e, _⟩ | ⟨g2, c2, cur, e, _, _, hnc, _⟩
    · cases e
    · injection e with _ _ e; subst e; rw [← e1]; exact hnc
  have hr4 : Rec w4 (w.heap.size + 1) [.string ⟨#[]⟩, .int .i64 0] 23 := (hg4.block (w.heap.size + 1) (by simp) (fun e => by injection e with e; omega)).trans HH.out.2.2.1
  have HKC := Keyed_calls (some ⟨g', 0, none⟩) cap' (⟨20, t, a, false, false⟩ :: l) w4 s1 ts (by rw [← e1]; omega) hcap hK hrun hs1
  rw [← e1] at HKC
  refine HKC.mono ?_
  rintro e w1 ⟨⟨T, ct, rfl, hN⟩, hb⟩
  have r0 := hr4.stays hb
  have hb1 : Below w.heap.size w w1 := hb4.trans (hb.mono hb4.size)
  clear HKC hK hN ho4 hg4 HH hr4 hcap e1 hrun
  have p0 := r0.cell 0 rfl
  have p1 := r0.cell 1 rfl
  have p2 := r0.free 0
  have p3 := r0.free 1
  have q1 := r0.alloc (.cells #[.string (runesBytes s1.buf), .int .i64 s1.idx] 23)
  have f0 := q1.cell 0 rfl
  have f1 := q1.cell 1 rfl
  have f2 := q1.free 0
  have f3 := q1.free 1
  have n1 := Rec.new w1 [.string (runesBytes s1.buf), .int .i64 s1.idx] 23
  have m0 := n1.cell 0 rfl
  have m1 := n1.cell 1 rfl
  have s1r := (q1.set 0 (.string (runesBytes s1.buf))).set 1 (.int .i64 s1.idx)
  have bb : Below w.heap.size w (((w1.alloc (.cells #[.string (runesBytes s1.buf), .int .i64 s1.idx] 23)).setCell ⟨w.heap.size + 1, 0, none⟩ (.string (runesBytes s1.buf))).setCell ⟨w.heap.size + 1, 1, none⟩ (.int .i64 s1.idx)) := below_put (below_put (hb1.alloc hb1.size _) (by omega) 0 _) (by omega) 1 _
  have e0 := s1r.cell 0 rfl
  have e2 := s1r.cell 1 rfl
  go_wp2
  exact bodyPost_ret (v := .tuple #[.agg #[.string (runesBytes s1.buf), .int .i64 s1.idx], .bool true]) (by simp [results, Tryd.results15, go_sem, e0, e2]) rfl ⟨rfl, bb⟩
end Go.Proofs.YtdinikcfhpfojaaDoor.H
