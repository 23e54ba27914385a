/- (No row is turned.) Appends onto rows of code points of the call's own, whatever the source; what readline's buffer keeps of what is taken out; no condition but bounds that its callers meet. -/
import Derived.Test.YtdinikcfhpfojaaDoorQGRune
import Derived.Laws.AppendOwnNone
import Derived.Laws.CopyOwn
import Derived.Laws.MakeOwn
namespace Go.Proofs.YtdinikcfhpfojaaDoor.G
open Go.RowKit Go.Proofs.YtdinikcfhpfojaaDoor.H Go.Proofs.YtdinikcfhpfojaaDoorW.PrintWords Go.Proofs.YtdinikcfhpfojaaDoorW.PrintLast Go.Proofs.YtdinikcfhpfojaaDoor.R
set_option linter.unusedVariables false
set_option linter.unusedSimpArgs false
attribute [local go_sem ↓] Go.wp_at_zero Go.wp_at_succ
theorem info21 : (Tryd.prog.info? 21).map (fun i => (i.zero, i.size, i.bytes)) = some (some (.int .i32 0), 1, 4) := by kernel_rfl
/-- A slice reads as code points. -/
def Src (w : World) (A : Option Addr) (c : Nat) (ys : List Int) : Prop := (A = none ∧ ys = [] ∧ c = 0) ∨ ∃ ad, A = some ad ∧ ∀ j, j < ys.length → w.cell? (ad.add j) = some (.int .i32 (ys.getD j 0))
theorem add_block (a : Addr) (j : Nat) : (a.add j).block = a.block := by unfold Addr.add; split <;> rfl
theorem Src.keep {w w1 : World} {A : Option Addr} {c : Nat} {ys : List Int} (h : Src w A c ys) (hk : ∀ ad, A = some ad → w1.heap[ad.block]? = w.heap[ad.block]?) : Src w1 A c ys := by
  rcases h with h | ⟨ad, rfl, hc⟩
  · exact .inl h
  · exact .inr ⟨ad, rfl, fun j hj => (World.cell?_of_block (by rw [add_block]; exact hk ad rfl)).trans (hc j hj)⟩
theorem run_append_ints (W : World) (B ty : Nat) (v : Value) (xs : List Int) (hown : Own W B v xs) (A : Option Addr) (c : Nat) (ys : List Int) (hs : Src W A c ys) (hl : xs.length + ys.length ≤ 1000000000) (hB : B ≤ W.heap.size) :
    ∃ v' W', (Builtin.append_ #[66, 66] ty #[v, .slice A ys.length c]).run Tryd.prog W = .ok v' W' ∧ Own W' B v' (xs ++ ys) ∧ W.grownBy W' v.ownBlock ∧ (v'.ownBlock = v.ownBlock ∨ v'.ownBlock = some W.heap.size) := by
  obtain ⟨i0, hi, hz0, hz1, hz2⟩ := info_parts info21
  rcases hs with ⟨rfl, rfl, rfl⟩ | ⟨ad, rfl, hc⟩
  · have hr := run_append_owned_none (P := Tryd.prog) (w := W) B 66 ty 21 i0 1 Tryd.underlying66 hi v xs.length _ hown
    exact ⟨v, W, hr, by rw [List.append_nil]; exact hown, World.grownBy.refl W _, .inl rfl⟩
  · obtain ⟨v', w', hr, h2, h3, _, h5⟩ := run_append_own_at (P := Tryd.prog) W B 66 ty 21 i0 (.int .i32 0) 1 4 Tryd.underlying66 hi hz0 hz1 hz2 rfl (by omega) v xs.length _ hown ad ys.length c (ys.map (Value.int .i32)) (by simp)
      (fun j u hu => by
        rw [List.getElem?_map] at hu
        obtain ⟨x, hx, rfl⟩ := Option.map_eq_some_iff.1 hu
        obtain ⟨hj, rfl⟩ := List.getElem?_eq_some_iff.1 hx
        have := hc j hj
        rwa [List.getD_eq_getElem?_getD, List.getElem?_eq_getElem hj] at this)
      (fun u hu => by obtain ⟨x, _, rfl⟩ := List.mem_map.1 hu; rfl) (by unfold maxLen; omega) (by omega) hB
    refine ⟨v', w', hr, ?_, h3, h5⟩
    unfold Own
    rw [List.length_append, List.map_append]
    exact h2
theorem run_append_ints2 (W : World) (B ty : Nat) (v : Value) (xs : List Int) (hown : Own W B v xs) (A : Option Addr) (m c : Nat) (ys : List Int) (hm : m = ys.length) (hs : Src W A c ys) (hl : xs.length + ys.length ≤ 1000000000) (hB : B ≤ W.heap.size) (N : Nat) (hN : xs.length + ys.length = N) :
    ∃ A' c' W', (Builtin.append_ #[66, 66] ty #[v, .slice A m c]).run Tryd.prog W = .ok (.slice A' N c') W' ∧ Own W' B (.slice A' N c') (xs ++ ys) ∧ W.grownBy W' v.ownBlock ∧ ((Value.slice A' N c').ownBlock = v.ownBlock ∨ (Value.slice A' N c').ownBlock = some W.heap.size) := by
  subst hm
  obtain ⟨v', W', hr, h2, h3, h4⟩ := run_append_ints W B ty v xs hown A c ys hs hl hB
  obtain ⟨A', c', rfl, _⟩ := h2.form
  have hN' : (xs ++ ys).length = N := by rw [List.length_append]; exact hN
  rw [hN'] at hr h2 h4
  exact ⟨A', c', W', hr, h2, h3, h4⟩
section
variable {w : World} {ops : Array Oper} {rest : List Oper} {o : Oper} {a : Act} {K : Act → World → Prop} {Q : Exit → Act → World → Prop} {E : Prop}
theorem wp_append_ints (s x : Operand) (ho : o.op = .call { callee := .builtin .append, args := #[s, x], argTypes := #[66, 66] }) (B : Nat) (v : Value) (xs : List Int) (hs : a.eval s = v) (hown : Own w B v xs) (A : Option Addr) (m c : Nat) (ys : List Int) (hm : m = ys.length) (hx : a.eval x = .slice A m c) (hsrc : Src w A c ys) (hl : xs.length + ys.length ≤ 1000000000) (hB : B ≤ w.heap.size) (N : Nat) (hN : xs.length + ys.length = N)
    (h : ∀ A' c' w', Own w' B (.slice A' N c') (xs ++ ys) → w.grownBy w' v.ownBlock → ((Value.slice A' N c').ownBlock = v.ownBlock ∨ (Value.slice A' N c').ownBlock = some w.heap.size) → K (a.put o.dst (.slice A' N c')) w') : o.wp Tryd.prog a w K Q := by
  obtain ⟨A', c', w', hr, h2, h3, h4⟩ := run_append_ints2 w B o.type v xs hown A m c ys hm hsrc hl hB N hN
  unfold Oper.wp execOp
  simp only [ho, resolve, invoke, builtin, Sem.run_bind, Sem.run_pure, Result.andThen_ok, List.map_toArray, List.map_cons, List.map_nil, hs, hx, hr]
  exact h A' c' w' h2 h3 h4
theorem wpList_append_ints (hgd : o.guard = none) (s x : Operand) (ho : o.op = .call { callee := .builtin .append, args := #[s, x], argTypes := #[66, 66] }) (B : Nat) (v : Value) (xs : List Int) (hs : a.eval s = v) (hown : Own w B v xs) (A : Option Addr) (m c : Nat) (ys : List Int) (hm : m = ys.length) (hx : a.eval x = .slice A m c) (hsrc : Src w A c ys) (hl : xs.length + ys.length ≤ 1000000000) (hB : B ≤ w.heap.size) (N : Nat) (hN : xs.length + ys.length = N)
    (h : ∀ A' c' w', Own w' B (.slice A' N c') (xs ++ ys) → w.grownBy w' v.ownBlock → ((Value.slice A' N c').ownBlock = v.ownBlock ∨ (Value.slice A' N c').ownBlock = some w.heap.size) → wpList Tryd.prog ops Q rest (a.put o.dst (.slice A' N c')) w') : wpList Tryd.prog ops Q (o :: rest) a w :=
  wpList_plain hgd fun _ hK => wp_append_ints s x ho B v xs hs hown A m c ys hm hx hsrc hl hB N hN fun A' c' w' h2 h3 h4 => hK _ _ (h A' c' w' h2 h3 h4)
end
theorem own_new (W : World) (B : Nat) (hB : B ≤ W.heap.size) : Own (W.alloc (.cells #[] 21)) B (.slice (some ⟨W.heap.size, 0, none⟩) 0 0) [] := World.ownsRow_made W #[] 0 hB (by unfold maxLen; omega) rfl
/-- As RB, the buffer's row told. -/
def RBv (w : World) (B m : Nat) (q : Rest) (bv : Value) (s : KS) : Prop :=
  ∃ kv, Rec w m (rbc bv s.idx q kv) 89 ∧ Own w B bv s.buf ∧ Own w B kv s.kill ∧ (∀ k, bv.ownBlock = some k → kv.ownBlock ≠ some k) ∧ B ≤ m ∧ s.idx ≤ s.buf.length
set_option maxHeartbeats 2000000 in
theorem pushKill_calls (m B : Nat) (s : KS) (r : Rest) (bv : Value) (A : Option Addr) (n c : Nat) (ys : List Int) (w : World) (h : RBv w B m r bv s) (hn : n = ys.length) (hs : Src w A c ys) (hA : ∀ ad, A = some ad → ad.block < w.heap.size) (hl : ys.length ≤ 1000000000) :
    Calls Tryd.prog 103 #[Pt m, .slice A n c] w fun e w' => e = .returned (.tuple #[]) ∧ RBv w' B m r bv { s with kill := ys } ∧ Fr B (At m) w w' := by
  subst hn
  obtain ⟨kv, hm, hb, hk, hd, hB, hi⟩ := h
  obtain ⟨buf, idx, kill⟩ := s
  dsimp only at *
  have hml := hm.lt
  have hs1 : Src (w.alloc (.cells #[] 21)) A c ys := hs.keep fun ad e => Below.heap_alloc w _ _ (hA ad e)
  have hn1 := own_new w B (by omega)
  have hm1 := hm.alloc (.cells #[] 21)
  have hb1 := hb.alloc (.cells #[] 21)
  have HS := Lib.hid (And.intro hs1 hn1)
  have hbl := hb.lt
  have hz : (w.alloc (.cells #[] 21)).heap.size = w.heap.size + 1 := by simp
  clear hs hs1 hn1 hA
  go_enter Tryd.func103, Tryd.ntmps103
  go_wp2_with (at_builtin; refine wpList_append_ints rfl (.tmp 5) (.tmp 6) rfl B (.slice (some ⟨w.heap.size, 0, none⟩) 0 0) [] rfl HS.out.2 A ys.length c ys rfl rfl HS.out.1 (by simpa using hl) (by omega) ys.length (by simp) ?_; intro A' c' w1 ho1 hg1 hat1; have hm2 : Rec w1 m (rbc bv idx r kv) 89 := (hg1.block m (by omega) (by simp only [Value.ownBlock]; intro e; injection e with e; omega)).trans hm1; have c7 := hm2.cell 10 rfl; have z7 := hm2.free 10)
  go_end0
  have hnew : ∀ k, (Value.slice A' ys.length c').ownBlock = some k → w.heap.size ≤ k := fun k hk => by
    rcases hat1 with e | e <;> rw [e] at hk <;> simp [Value.ownBlock] at hk <;> omega
  have hb2 : Own w1 B bv buf := hb1.grown hg1 (fun k hk => by simp only [Value.ownBlock]; intro e; injection e with e; have := hbl k hk; omega)
  have hf1 : Fr B (At m) w w1 := Fr.grown ((Fr.refl _ _ _).alloc (by omega) _) hg1 (fun k hk => by
    have : k = w.heap.size := by simpa [Value.ownBlock, eq_comm] using hk
    subst this
    exact ⟨by omega, by omega⟩) (by rw [hz]; omega)
  exact ⟨rfl, ⟨_, hm2.set 10 (.slice A' ys.length c'), hb2.set hm2 (by decide) 10 _, (by simpa using ho1 : Own w1 B (.slice A' ys.length c') ys).set hm2 (by decide) 10 _, fun k hk e => by have := hnew k e; have := hbl k hk; omega, hB, hi⟩, fr_at hf1 hB _ _⟩
end Go.Proofs.YtdinikcfhpfojaaDoor.G
