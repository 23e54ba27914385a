/- What a completer offers: the slice of offers as it grows; no condition. -/
import Derived.Test.YthbdaoapjnofkaaDoorQHCmA
import Derived.Lib.BufferKept
import Derived.Laws.OwnMore
import Derived.Deep.AppendLies
import Derived.Maps.AppendAt
namespace Go.Proofs.YthbdaoapjnofkaaDoor.H
open Go.RowKit Go.Proofs.YthbdaoapjnofkaaDoorW.PrintWords Go.Proofs.YthbdaoapjnofkaaDoorW.PrintLast Go.Proofs.YthbdaoapjnofkaaDoor.R Go.Proofs.YthbdaoapjnofkaaDoor.X
set_option linter.unusedVariables false
set_option linter.unusedSimpArgs false
/-- A row of code points, behind the beginning of a call. -/
def RowK (w0 w : World) (v : Value) (l : List Int) : Prop := RowV w v l
theorem add_block (a : Addr) (j : Nat) : (a.add j).block = a.block := by
  cases j with
  | zero => rfl
  | succ j => simp [Addr.add]
theorem cell_block {w w1 : World} {a : Addr} (h : w1.heap[a.block]? = w.heap[a.block]?) : w1.cell? a = w.cell? a := by
  unfold World.cell?
  simp only [h]
theorem C_move {w w1 : World} {A : Option Addr} {l : List Int} (h : Kd.C (Kd.int .i32) w A l.length l) (hm : 0 < l.length → ∀ ad, A = some ad → w1.heap[ad.block]? = w.heap[ad.block]?) : Kd.C (Kd.int .i32) w1 A l.length l := by
  obtain ⟨h1, h2, h3⟩ := Kd.reads_of_C (enc := Value.int .i32) (d := (0 : Int)) (h1 := fun _ => rfl) h
  refine Kd.C_of_reads (enc := Value.int .i32) (d := (0 : Int)) ⟨h1, h2, fun hn => ?_⟩
  obtain ⟨ad, e, hc⟩ := h3 hn
  exact ⟨ad, e, fun j hj => (cell_block (by rw [add_block]; exact hm hn ad e)).trans (hc j hj)⟩
theorem RowV.move {w w1 : World} {v : Value} {l : List Int} (h : RowV w v l) (hm : ∀ (k : Nat) (cs : Array Value) (fz : Nat × Nat), w.heap[k]? = some (Obj.cells cs 21 fz) → w1.heap[k]? = w.heap[k]?) : RowV w1 v l := by
  obtain ⟨A, c, rfl, hc, hC, hb⟩ := h
  have hk : 0 < l.length → ∀ ad, A = some ad → w1.heap[ad.block]? = w.heap[ad.block]? := fun hn ad e => by
    obtain ⟨ad', cs, fz, e', h⟩ := hb hn
    obtain rfl : ad = ad' := by rw [e] at e'; exact Option.some.inj e'
    exact hm _ cs fz h
  refine ⟨A, c, rfl, hc, C_move hC hk, fun hn => ?_⟩
  obtain ⟨ad, cs, fz, e, h⟩ := hb hn
  exact ⟨ad, cs, fz, e, (hk hn ad e).trans h⟩
theorem RowK.move {w0 w w1 : World} {v : Value} {l : List Int} (h : RowK w0 w v l) (hm : ∀ k, k < w.heap.size → (k < w0.heap.size ∨ ∃ cs fz, w.heap[k]? = some (.cells cs 21 fz)) → w1.heap[k]? = w.heap[k]?) : RowK w0 w1 v l :=
  RowV.move h fun k cs fz hk => hm k (lt_of_block hk) (.inr ⟨cs, fz, hk⟩)
theorem RowK.read {w0 w : World} {v : Value} {l : List Int} (h : RowK w0 w v l) : RowV w v l := h
theorem RowK.reads {w0 w : World} {A : Option Addr} {n c : Nat} {l : List Int} (h : RowK w0 w (.slice A n c) l) : Kd.C (Kd.int .i32) w A l.length l := by
  obtain ⟨A0, c0, e, hc, hC, _⟩ := h
  injection e with e1 e2 e3
  subst e1
  exact hC
/-- The row '[]rune{x}'. -/
theorem RowK.new (w0 w : World) (x : Int) (hb : w0.heap.size ≤ w.heap.size) : RowK w0 (w.alloc (.cells #[.int .i32 x] 21)) (.slice (some ⟨w.heap.size, 0, none⟩) 1 1) [x] := by
  have hh : (w.alloc (.cells #[.int .i32 x] 21)).heap[w.heap.size]? = some (.cells #[.int .i32 x] 21 (0, 0)) := Go.heap_alloc_new w _
  refine ⟨_, _, rfl, Nat.le_refl _, Kd.C_of_reads (enc := Value.int .i32) (d := (0 : Int)) ⟨rfl, by simp, fun _ => ⟨_, rfl, fun j hj => ?_⟩⟩, fun _ => ⟨_, _, _, rfl, hh⟩⟩
  obtain rfl : j = 0 := by simp at hj; omega
  exact (Rec.new w [.int .i32 x] 21).cell 0 rfl
theorem slice_of {w : World} {N n : Nat} {e : TypeId} {v : Value} {xs : List Value} (h : w.ownsRow N e 1 v n xs) : ∃ T c, v = .slice T n c := by
  rcases h.2 with ⟨e, h0⟩ | ⟨g, cap, cur, e, _⟩
  · exact ⟨none, 0, by rw [e, h0]⟩
  · exact ⟨_, _, e⟩
theorem wpList_append_any {P : Program} (w : World) {ops : Array Oper} {rest : List Oper} {o : Oper} {a : Act} {Q : Exit → Act → World → Prop} (hgd : o.guard = none) (s x : Operand) (t : TypeId)
    (ho : o.op = .call { callee := .builtin .append, args := #[s, x], argTypes := #[t, t] })
    (base : Nat) (e : TypeId) (i : TypeInfo) (z : Value) (size bytes : Nat) (ht : P.underlying t = some (.slice e)) (hi : P.info? e = some i) (hz : i.zero = some z)
    (hsize : i.size = size) (hby : i.bytes = bytes) (hzs : z.cells.size = size) (hsz : 0 < size)
    (v : Value) (n : Nat) (xs : List Value) (hs : a.eval s = v) (hown : w.ownsRow base e size v n xs)
    (ad : Addr) (m c : Nat) (news : List Value) (hx : a.eval x = .slice (some ad) m c) (hl : news.length = m * size) (hnews : ∀ j u, news[j]? = some u → w.cell? (ad.add j) = some u) (h1 : ∀ u ∈ news, u.oneCell' = true)
    (h63 : n + m ≤ maxLen) (hbytes : (n + m) * bytes ≤ 140737488355328) (hbase : base ≤ w.heap.size)
    (h : ∀ v' w', w'.ownsRow base e size v' (n + m) (xs ++ news) → w.grownBy w' v.ownBlock → (v'.ownBlock = v.ownBlock ∨ v'.ownBlock = some w.heap.size) → wpList P ops Q rest (a.put o.dst v') w') : wpList P ops Q (o :: rest) a w := by
  refine wpList_plain hgd fun K hK' => ?_
  obtain ⟨v', w', hrun, h2, h3, _, h5⟩ := run_append_own_at (P := P) w base t o.type e i z size bytes ht hi hz hsize hby hzs hsz v n xs hown ad m c news hl hnews h1 h63 hbytes hbase
  unfold Oper.wp
  simp [execOp, ho, resolve, invoke, builtin, hs, hx, hrun, Result.andThen]
  exact hK' _ _ (h v' w' h2 h3 h5)
theorem row_new (w : World) (l : List Value) (t : TypeId) : ∀ j u, l[j]? = some u → (w.alloc (.cells l.toArray t)).cell? ((⟨w.heap.size, 0, none⟩ : Addr).add j) = some u := by
  intro j u hu
  have h1 := (Rec.new w l t).cell j hu
  have e : (⟨w.heap.size, 0, none⟩ : Addr).add j = ⟨w.heap.size, j, none⟩ := by
    cases j with
    | zero => rfl
    | succ j => simp [Addr.add]
  rw [e]
  exact h1
theorem row_at {w : World} {H : Nat} (h : w.heap.size = H) (v : Value) (t : TypeId) : ∀ j u, [v][j]? = some u → (w.alloc (.cells #[v] t)).cell? ((⟨H, 0, none⟩ : Addr).add j) = some u := h ▸ row_new w [v] t
theorem cut_C {A : Option Addr} {c : Nat} {l : List Int} {m : Nat} (hm : m ≤ l.length) (hc : l.length ≤ c) :
    (∀ W : World, (Instr.slice 27 (.slice A l.length c) (some (.int .i64 (m : Int))) none none).run Tryd.prog W = .ok (.slice (if c = m then A else A.map (·.add m)) (l.length - m) (c - m)) W) ∧
      ∀ w, Kd.C (Kd.int .i32) w A l.length l → Kd.C (Kd.int .i32) w (if c = m then A else A.map (·.add m)) (l.length - m) (l.drop m) := by
  obtain ⟨i0, hi, _, hsz, _⟩ := info_parts info21
  have hel : Tryd.prog.elem 27 = 21 := by kernel_rfl
  refine ⟨fun W => ?_, fun w hC => ?_⟩
  · have hu : Tryd.prog.underlying 27 = some (.slice (Tryd.prog.elem 27)) := by rw [hel]; exact Tryd.underlying27
    rw [run_slice_l W 27 A l.length c hu .i64 (m : Int) (Int.natCast_nonneg _) (by omega), hel]
    simp [sizeOf, typeInfo, hi, hsz, sliced, Result.andThen]
  · exact Kd.C_of_reads (enc := Value.int .i32) (d := (0 : Int)) ((Kd.reads_of_C (enc := Value.int .i32) (d := (0 : Int)) (h1 := fun _ => rfl) hC).drop_ m hm hc)
theorem RowK.cut {w0 w : World} {A : Option Addr} {n c : Nat} {l : List Int} (h : RowK w0 w (.slice A n c) l) {m : Nat} (hm : m ≤ n) :
    ∃ A', (∀ W : World, (Instr.slice 27 (.slice A n c) (some (.int .i64 (m : Int))) none none).run Tryd.prog W = .ok (.slice A' (n - m) (c - m)) W) ∧ Kd.C (Kd.int .i32) w A' (n - m) (l.drop m) ∧ n - m ≤ c - m ∧ RowK w0 w (.slice A' (n - m) (c - m)) (l.drop m) := by
  obtain ⟨A0, c0, e, hc, hC, hb⟩ := h
  injection e with e1 e2 e3
  subst e1 e2 e3
  have hlen : (l.drop m).length = l.length - m := List.length_drop
  obtain ⟨hrun, hCC⟩ := cut_C (A := A) (c := c) (l := l) (m := m) hm hc
  have hC' := hCC w hC
  refine ⟨_, hrun, hC', by omega, _, _, by rw [hlen], by omega, by rw [hlen]; exact hC', fun hn => ?_⟩
  obtain ⟨ad, cs, fz, e, hk⟩ := hb (by omega)
  subst e
  by_cases hcm : c = m
  · exact ⟨ad, cs, fz, by rw [if_pos hcm], hk⟩
  · exact ⟨ad.add m, cs, fz, by rw [if_neg hcm]; rfl, by rw [add_block]; exact hk⟩
/-- Behind some words: the offers. -/
structure NL (w0 w : World) (T : Option Addr) (c : Nat) (xs : List (List Int)) (L : List Value) : Prop where
  own : w.ownsRow w0.heap.size 27 1 (.slice T xs.length c) xs.length L
  row : ∀ (j : Nat) (l : List Int), xs[j]? = some l → ∃ v, L[j]? = some v ∧ RowK w0 w v l
  below : Below w0.heap.size w0 w
theorem NL.start {w0 w : World} (h : Below w0.heap.size w0 w) : NL w0 w none 0 [] [] := ⟨World.ownsRow_nil _ _ _ _, fun _ _ h => by simp at h, h⟩
theorem NL.stays {w0 w w1 : World} {T : Option Addr} {c : Nat} {xs : List (List Int)} {L : List Value} (h : NL w0 w T c xs L) (hb : Below w.heap.size w w1) : NL w0 w1 T c xs L :=
  ⟨own_move h.own (fun k hk => hb.block k (World.ownsRow.lt h.own k hk).2), fun j l hj => by
    obtain ⟨v, hv, hr⟩ := h.row j l hj
    exact ⟨v, hv, hr.move fun k hk _ => hb.block k hk⟩, h.below.trans (hb.mono h.below.size)⟩
theorem NL.push {w0 w w4 : World} {T T1 : Option Addr} {c c1 : Nat} {xs : List (List Int)} {L : List Value} {v : Value} {l : List Int} (h : NL w0 w T c xs L) (hv : RowK w0 w v l)
    (hg : w.grownBy w4 (Value.slice T xs.length c).ownBlock) (ho : w4.ownsRow w0.heap.size 27 1 (.slice T1 (xs.length + 1) c1) (xs.length + 1) (L ++ [v])) : NL w0 w4 T1 c1 (xs ++ [l]) (L ++ [v]) := by
  have hLl : L.length = xs.length := by have := h.own.1; omega
  have hmv : ∀ {u : Value} {l' : List Int}, RowK w0 w u l' → RowK w0 w4 u l' := fun hu => hu.move fun k hk hkk => hg.block k hk (fun e => by
    obtain ⟨cs, e2⟩ := own_typed h.own k e.symm
    have hlo := (World.ownsRow.lt h.own k e.symm).1
    rcases hkk with h2 | ⟨cs2, fz, h2⟩
    · omega
    · rw [e2] at h2
      injection h2 with h2; injection h2 with _ h2
      exact absurd h2 (by decide))
  refine ⟨by simpa using ho, fun j l' hj => ?_, h.below.grown hg h.below.size (fun k hk => (World.ownsRow.lt h.own k hk).1)⟩
  rcases Nat.lt_or_ge j xs.length with hlt | hge
  · rw [List.getElem?_append_left hlt] at hj
    obtain ⟨u, hu, hr⟩ := h.row j l' hj
    exact ⟨u, by rw [List.getElem?_append_left (by omega)]; exact hu, hmv hr⟩
  · obtain rfl : j = xs.length := by
      have : j < (xs ++ [l]).length := (List.getElem?_eq_some_iff.1 hj).1
      simp at this; omega
    rw [List.getElem?_append_right (Nat.le_refl _), Nat.sub_self] at hj
    obtain rfl : l = l' := by simpa using hj
    exact ⟨v, by rw [← hLl, List.getElem?_append_right (Nat.le_refl _), Nat.sub_self]; rfl, hmv hv⟩
theorem RowK.below {w0 w w1 : World} {v : Value} {l : List Int} (h : RowK w0 w v l) (hb : Below w.heap.size w w1) : RowK w0 w1 v l := h.move fun k hk _ => hb.block k hk
theorem NL.keeps {w0 w w4 : World} {T : Option Addr} {c : Nat} {xs : List (List Int)} {L : List Value} {v : Value} {l : List Int} (h : NL w0 w T c xs L) (hv : RowK w0 w v l) (hg : w.grownBy w4 (Value.slice T xs.length c).ownBlock) : RowK w0 w4 v l := hv.move fun k hk hkk => hg.block k hk (fun e => by
    obtain ⟨cs, e2⟩ := own_typed h.own k e.symm
    have hlo := (World.ownsRow.lt h.own k e.symm).1
    rcases hkk with h2 | ⟨cs2, fz, h2⟩
    · omega
    · rw [e2] at h2
      injection h2 with h2; injection h2 with _ h2
      exact absurd h2 (by decide))
/-- The words of one completer, in a row of their own. -/
def NM (w0 w : World) (h : Nat) (C : List Value) (names : List (List Int)) : Prop := Rec w h C 27 ∧ ∀ (j : Nat) (l : List Int), names[j]? = some l → ∃ v, C[j]? = some v ∧ RowK w0 w v l
theorem NM.below {w0 w w1 : World} {h : Nat} {C : List Value} {names : List (List Int)} (hn : NM w0 w h C names) (hb : Below w.heap.size w w1) : NM w0 w1 h C names := ⟨hn.1.stays hb, fun j l hj => by
  obtain ⟨v, hv, hr⟩ := hn.2 j l hj
  exact ⟨v, hv, hr.below hb⟩⟩
theorem NM.grown {w0 w w4 : World} {T : Option Addr} {c h : Nat} {xs : List (List Int)} {L C : List Value} {names : List (List Int)} (hn : NM w0 w h C names) (hL : NL w0 w T c xs L) (hg : w.grownBy w4 (Value.slice T xs.length c).ownBlock) (hne : (Value.slice T xs.length c).ownBlock ≠ some h) : NM w0 w4 h C names := ⟨(hg.block h hn.1.lt (fun e => hne e.symm)).trans hn.1, fun j l hj => by
  obtain ⟨v, hv, hr⟩ := hn.2 j l hj
  exact ⟨v, hv, hL.keeps hr hg⟩⟩
/-- Rows that lie somewhere. -/
def RW (w : World) (T : Option Addr) (xs : List (List Int)) : Prop := ∀ (j : Nat) (l : List Int), xs[j]? = some l → ∃ g v cs fz, T = some ⟨g, 0, none⟩ ∧ w.heap[g]? = some (.cells cs 27 fz) ∧ w.cell? ⟨g, j, none⟩ = some v ∧ RowV w v l
theorem NL.out {w0 w : World} {T : Option Addr} {c : Nat} {xs : List (List Int)} {L : List Value} (h : NL w0 w T c xs L) : RW w T xs ∧ xs.length ≤ c := by
  obtain ⟨hl, h1 | ⟨g, cap, cur, e, hg, hh, hn, hm, hs, ht⟩⟩ := h.own
  · obtain ⟨e, h0⟩ := h1
    refine ⟨fun j l hj => ?_, by omega⟩
    have : j < xs.length := (List.getElem?_eq_some_iff.1 hj).1
    omega
  · injection e with e1 e2 e3
    subst e1 e3
    refine ⟨fun j l hj => ?_, hn⟩
    have hjl : j < xs.length := (List.getElem?_eq_some_iff.1 hj).1
    obtain ⟨v, hv, hr⟩ := h.row j l hj
    have hR : Rec w g cur.toList 27 := by unfold Rec; simpa using hh
    exact ⟨g, v, _, _, rfl, hh, hR.cell j (by rw [← hv, ← ht, List.getElem?_take_of_lt (by omega)]), hr.read⟩
end Go.Proofs.YthbdaoapjnofkaaDoor.H
