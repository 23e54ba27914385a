/- What a message is written as, and read from: contracts; no condition but bounds that its callers meet. -/
import Derived.Test.YthkblefeifdhaaaHRec
import Derived.Test.YthkblefeifdhaaaHCaught
import Derived.Laws.AppendOwnNone
import Derived.Laws.CopyOwn
import Derived.Laws.MakeOwn
import Derived.Laws.IdiomStrings
namespace Go.Proofs.Ythkblefeifdhaaa.H
open Go.RowKit Go.Proofs.YthkblefeifdhaaaW.PrintWords Go.Proofs.YthkblefeifdhaaaW.PrintLast Go.Proofs.Ythkblefeifdhaaa.R
set_option linter.unusedVariables false
set_option linter.unusedSimpArgs false
attribute [local go_sem ↓] Go.wp_at_zero Go.wp_at_succ

theorem info5 : (Try.prog.info? 5).map (fun i => (i.zero, i.size, i.bytes)) = some (some (.int .u8 0), 1, 1) := by kernel_rfl
/-- A row of bytes of the call's own. -/
def BOwn (w : World) (B : Nat) (v : Value) (xs : List Int) : Prop := w.ownsRow B 5 1 v xs.length (nums .u8 xs)
/-- A slice reads as bytes. -/
def BSrc (w : World) (A : Option Addr) (ys : List Int) : Prop := ∃ ad, A = some ad ∧ ∀ j, j < ys.length → w.cell? (ad.add j) = some (.int .u8 (ys.getD j 0))
theorem BSrc.keep {w w1 : World} {A : Option Addr} {ys : List Int} (h : BSrc w A ys) (hk : ∀ ad, A = some ad → w1.heap[ad.block]? = w.heap[ad.block]?) : BSrc w1 A ys := by
  obtain ⟨ad, rfl, hc⟩ := h
  exact ⟨ad, rfl, fun j hj => (World.cell?_of_block (by rw [add_block]; exact hk ad rfl)).trans (hc j hj)⟩
theorem run_append_bytes (W : World) (B ty : Nat) (v : Value) (xs : List Int) (hown : BOwn W B v xs) (A : Option Addr) (m c : Nat) (ys : List Int) (hm : m = ys.length) (hs : BSrc W A ys) (hl : xs.length + ys.length ≤ 1000000000) (hB : B ≤ W.heap.size) (N : Nat) (hN : xs.length + ys.length = N) :
    ∃ A' c' W', (Builtin.append_ #[26, 26] ty #[v, .slice A m c]).run Try.prog W = .ok (.slice A' N c') W' ∧ BOwn W' B (.slice A' N c') (xs ++ ys) ∧ W.grownBy W' v.ownBlock ∧ ((Value.slice A' N c').ownBlock = v.ownBlock ∨ (Value.slice A' N c').ownBlock = some W.heap.size) := by
  subst hm
  obtain ⟨ad, rfl, hc⟩ := hs
  obtain ⟨i0, hi', hz0', hz1', hz2'⟩ := info_parts info5
  have hi := Lib.hid hi'
  have hz0 := Lib.hid hz0'
  have hz1 := Lib.hid hz1'
  have hz2 := Lib.hid hz2'
  clear hi' hz0' hz1' hz2'
  obtain ⟨v', w', hr, h2, h3, _, h5⟩ := run_append_own_at (P := Try.prog) W B 26 ty 5 i0 (.int .u8 0) 1 1 Try.underlying26 hi.out hz0.out hz1.out hz2.out rfl (by omega) v xs.length _ hown ad ys.length c (ys.map (Value.int .u8)) (by simp)
      (fun j u hu => by
        rw [List.getElem?_map] at hu
        obtain ⟨x, hx, rfl⟩ := Option.map_eq_some_iff.1 hu
        obtain ⟨hj, rfl⟩ := List.getElem?_eq_some_iff.1 hx
        have := hc j hj
        rwa [List.getD_eq_getElem?_getD, List.getElem?_eq_getElem hj] at this)
      (fun u hu => by obtain ⟨x, _, rfl⟩ := List.mem_map.1 hu; rfl) (by unfold maxLen; omega) (by omega) hB
  have h2' : BOwn w' B v' (xs ++ ys) := by
    unfold BOwn
    rw [List.length_append, nums, List.map_append]
    exact h2
  have hN' : (xs ++ ys).length = N := by rw [List.length_append]; exact hN
  obtain ⟨A', c', hv⟩ : ∃ A' c', v' = .slice A' N c' := by
    rcases h2.2 with ⟨e, hn⟩ | ⟨g, cap, cur, e, _⟩
    · exact ⟨none, 0, by rw [e, show N = 0 by omega]⟩
    · exact ⟨_, _, by rw [e, ← hN]⟩
  subst hv
  exact ⟨A', c', w', hr, h2', h3, h5⟩
def head6 (n : Nat) (kd : Int) : List Int := [0, 0, ((n : Int) + 2) / 256, ((n : Int) + 2) % 256, kd / 256, kd % 256]



theorem head6_eq (n : Nat) (kd : Int) (hn : n ≤ 500) (h0 : 0 ≤ kd) (h1 : kd < 32768) : [IntKind.u8.wrap (((n : Int) + 2) / 16777216), IntKind.u8.wrap (((n : Int) + 2) / 65536), IntKind.u8.wrap (((n : Int) + 2) / 256), IntKind.u8.wrap ((n : Int) + 2), IntKind.u8.wrap (IntKind.u16.wrap kd / 256), IntKind.u8.wrap kd] = head6 n kd := by
  unfold head6
  simp only [IntKind.wrap_u8, IntKind.wrap_u16]
  rw [show ((n : Int) + 2) / 16777216 % 256 = 0 by omega, show ((n : Int) + 2) / 65536 % 256 = 0 by omega, show ((n : Int) + 2) / 256 % 256 = ((n : Int) + 2) / 256 by omega, show kd % 65536 / 256 % 256 = kd / 256 by omega]
theorem own_six (w : World) (a b c d e f : Int) : BOwn (w.alloc (.cells #[.int .u8 a, .int .u8 b, .int .u8 c, .int .u8 d, .int .u8 e, .int .u8 f] 5)) w.heap.size (.slice (some ⟨w.heap.size, 0, none⟩) 6 6) [a, b, c, d, e, f] :=
  ⟨by simp [nums], .inr ⟨w.heap.size, 6, _, rfl, Nat.le_refl _, heap_alloc_new w _, Nat.le_refl _, by unfold maxLen; omega, rfl, rfl⟩⟩
theorem step_append_bytes {w : World} {ops : Array Oper} {o : Oper} {a : Act} {K : Act → World → Prop} {Q : Exit → Act → World → Prop} {E : Prop} (d : Nat) (hd : o.dst = some d) (hgd : o.guard = none) (s x : Operand) (ho : o.op = .call { callee := .builtin .append, args := #[s, x], argTypes := #[26, 26] }) (B : Nat) (v : Value) (xs : List Int) (hs : a.eval s = v) (hown : BOwn w B v xs) (A : Option Addr) (m c : Nat) (ys : List Int) (hm : m = ys.length) (hx : a.eval x = .slice A m c) (hsrc : BSrc w A ys) (hl : xs.length + ys.length ≤ 1000000000) (hB : B ≤ w.heap.size) (N : Nat) (hN : xs.length + ys.length = N)
    (h : ∀ A' c' w', BOwn w' B (.slice A' N c') (xs ++ ys) → w.grownBy w' v.ownBlock → ((Value.slice A' N c').ownBlock = v.ownBlock ∨ (Value.slice A' N c').ownBlock = some w.heap.size) → K (a.put (some d) (.slice A' N c')) w') :
    if Region.wanted o (yielded ops a.tmps) = true then Oper.wp Try.prog o a w K Q else E := by
  have hw : Region.wanted o (yielded ops a.tmps) = true := by simp [Region.wanted, hgd]
  rw [if_pos hw]
  obtain ⟨A', c', w', hr, h2, h3, h4⟩ := run_append_bytes w B o.type v xs hown A m c ys hm hsrc hl hB N hN
  unfold Oper.wp execOp
  simp only [ho, resolve, hd, invoke, builtin, Sem.run_bind, Sem.run_pure, Result.andThen_ok, List.map_toArray, List.map_cons, List.map_nil, hs, hx, hr]
  unfold Oper.upon
  rw [hd]
  exact h A' c' w' h2 h3 h4
set_option maxHeartbeats 2000000 in
theorem bytes_calls (m : Nat) (A : Option Addr) (c : Nat) (ys : List Int) (kd : Int) (w : World) (hm : Rec w m [.int .i16 kd, .slice A ys.length c] 73) (hs : BSrc w A ys) (hA : ∀ ad, A = some ad → ad.block < w.heap.size) (hl : ys.length ≤ 500) (hk0 : 0 ≤ kd) (hk1 : kd < 32768) :
    Calls Try.prog 46 #[.pointer (some ⟨m, 0, none⟩)] w fun e w' => ∃ v, e = .returned v ∧ BOwn w' w.heap.size v (head6 ys.length kd ++ ys) ∧ Below w.heap.size w w' := by
  have k0 := hm.cell 0 rfl
  have k1 := hm.cell 1 rfl
  have hml := hm.lt
  go_enter Try.func46, Try.ntmps46
  go_wp2
  refine wp_region_noPanic ?_
  refine wp_region_held_drew (S := fun w' => w'.cell? ⟨m, 0, none⟩ = some (.int .i16 kd) ∧ w'.cell? ⟨m, 1, none⟩ = some (.slice A ys.length c)) (by kernel_rfl) ⟨k0, k1⟩ (fun hHeld => ?_)
  refine wpAnyH_take (i := 0) (v := ?v0) (by simp only [List.getElem?_toArray, List.getElem?_cons_succ, List.getElem?_cons_zero]; rfl) (by kernel_rfl) (by kernel_rfl) (by kernel_rfl) (fun _ _ _ h => h) (Or.inl ⟨by rfl, ?h0⟩) (by assumption) ?_
  case h0 => (intro w hSw; (try obtain ⟨q0, q1⟩ := hSw); go_simp; try with_reducible rfl)
  try simp only [Act.put, List.setIfInBounds_toArray, List.set_cons_zero, List.set_cons_succ]
  refine wpAnyH_take (i := 1) (v := ?v1) (by simp only [List.getElem?_toArray, List.getElem?_cons_succ, List.getElem?_cons_zero]; rfl) (by kernel_rfl) (by kernel_rfl) (by kernel_rfl) (fun _ _ _ h => h) (Or.inl ⟨by rfl, ?h1⟩) (by assumption) ?_
  case h1 => (intro w hSw; (try obtain ⟨q0, q1⟩ := hSw); go_simp; try with_reducible rfl)
  try simp only [Act.put, List.setIfInBounds_toArray, List.set_cons_zero, List.set_cons_succ]
  refine wpAnyH_take (i := 2) (v := ?v2) (by simp only [List.getElem?_toArray, List.getElem?_cons_succ, List.getElem?_cons_zero]; rfl) (by kernel_rfl) (by kernel_rfl) (by kernel_rfl) (fun _ _ _ h => h) (Or.inl ⟨by rfl, ?h2⟩) (by assumption) ?_
  case h2 => (intro w hSw; (try obtain ⟨q0, q1⟩ := hSw); go_simp; try with_reducible rfl)
  try simp only [Act.put, List.setIfInBounds_toArray, List.set_cons_zero, List.set_cons_succ]
  refine wpAnyH_take (i := 3) (v := ?v3) (by simp only [List.getElem?_toArray, List.getElem?_cons_succ, List.getElem?_cons_zero]; rfl) (by kernel_rfl) (by kernel_rfl) (by kernel_rfl) (fun _ _ _ h => h) (Or.inl ⟨by rfl, ?h3⟩) (by assumption) ?_
  case h3 => (intro w hSw; (try obtain ⟨q0, q1⟩ := hSw); go_simp; try with_reducible rfl)
  try simp only [Act.put, List.setIfInBounds_toArray, List.set_cons_zero, List.set_cons_succ]
  refine wpAnyH_take (i := 4) (v := ?v4) (by simp only [List.getElem?_toArray, List.getElem?_cons_succ, List.getElem?_cons_zero]; rfl) (by kernel_rfl) (by kernel_rfl) (by kernel_rfl) (fun _ _ _ h => h) (Or.inl ⟨by rfl, ?h4⟩) (by assumption) ?_
  case h4 => (intro w hSw; (try obtain ⟨q0, q1⟩ := hSw); go_simp; try with_reducible rfl)
  try simp only [Act.put, List.setIfInBounds_toArray, List.set_cons_zero, List.set_cons_succ]
  refine wpAnyH_take (i := 5) (v := ?v5) (by simp only [List.getElem?_toArray, List.getElem?_cons_succ, List.getElem?_cons_zero]; rfl) (by kernel_rfl) (by kernel_rfl) (by kernel_rfl) (fun _ _ _ h => h) (Or.inl ⟨by rfl, ?h5⟩) (by assumption) ?_
  case h5 => (intro w hSw; (try obtain ⟨q0, q1⟩ := hSw); go_simp; try with_reducible rfl)
  try simp only [Act.put, List.setIfInBounds_toArray, List.set_cons_zero, List.set_cons_succ]
  refine wpAnyH_take (i := 6) (v := ?v6) (by simp only [List.getElem?_toArray, List.getElem?_cons_succ, List.getElem?_cons_zero]; rfl) (by kernel_rfl) (by kernel_rfl) (by kernel_rfl) (fun _ _ _ h => h) (Or.inl ⟨by rfl, ?h6⟩) (by assumption) ?_
  case h6 => (intro w hSw; (try obtain ⟨q0, q1⟩ := hSw); go_simp; try with_reducible rfl)
  try simp only [Act.put, List.setIfInBounds_toArray, List.set_cons_zero, List.set_cons_succ]
  refine wpAnyH_take (i := 7) (v := ?v7) (by simp only [List.getElem?_toArray, List.getElem?_cons_succ, List.getElem?_cons_zero]; rfl) (by kernel_rfl) (by kernel_rfl) (by kernel_rfl) (fun _ _ _ h => h) (Or.inl ⟨by rfl, ?h7⟩) (by assumption) ?_
  case h7 => (intro w hSw; (try obtain ⟨q0, q1⟩ := hSw); go_simp; try with_reducible rfl)
  try simp only [Act.put, List.setIfInBounds_toArray, List.set_cons_zero, List.set_cons_succ]
  refine wpAnyH_take (i := 8) (v := ?v8) (by simp only [List.getElem?_toArray, List.getElem?_cons_succ, List.getElem?_cons_zero]; rfl) (by kernel_rfl) (by kernel_rfl) (by kernel_rfl) (fun _ _ _ h => h) (Or.inl ⟨by rfl, ?h8⟩) (by assumption) ?_
  case h8 => (intro w hSw; (try obtain ⟨q0, q1⟩ := hSw); go_simp; try with_reducible rfl)
  try simp only [Act.put, List.setIfInBounds_toArray, List.set_cons_zero, List.set_cons_succ]
  refine wpAnyH_take (i := 9) (v := ?v9) (by simp only [List.getElem?_toArray, List.getElem?_cons_succ, List.getElem?_cons_zero]; rfl) (by kernel_rfl) (by kernel_rfl) (by kernel_rfl) (fun _ _ _ h => h) (Or.inl ⟨by rfl, ?h9⟩) (by assumption) ?_
  case h9 => (intro w hSw; (try obtain ⟨q0, q1⟩ := hSw); go_simp; try with_reducible rfl)
  try simp only [Act.put, List.setIfInBounds_toArray, List.set_cons_zero, List.set_cons_succ]
  refine wpAnyH_take (i := 10) (v := ?v10) (by simp only [List.getElem?_toArray, List.getElem?_cons_succ, List.getElem?_cons_zero]; rfl) (by kernel_rfl) (by kernel_rfl) (by kernel_rfl) (fun _ _ _ h => h) (Or.inl ⟨by rfl, ?h10⟩) (by assumption) ?_
  case h10 => (intro w hSw; (try obtain ⟨q0, q1⟩ := hSw); go_simp; try with_reducible rfl)
  try simp only [Act.put, List.setIfInBounds_toArray, List.set_cons_zero, List.set_cons_succ]
  refine wpAnyH_take (i := 11) (v := ?v11) (by simp only [List.getElem?_toArray, List.getElem?_cons_succ, List.getElem?_cons_zero]; rfl) (by kernel_rfl) (by kernel_rfl) (by kernel_rfl) (fun _ _ _ h => h) (Or.inl ⟨by rfl, ?h11⟩) (by assumption) ?_
  case h11 => (intro w hSw; (try obtain ⟨q0, q1⟩ := hSw); go_simp; try with_reducible rfl)
  try simp only [Act.put, List.setIfInBounds_toArray, List.set_cons_zero, List.set_cons_succ]
  refine wpAnyH_take (i := 12) (v := ?v12) (by simp only [List.getElem?_toArray, List.getElem?_cons_succ, List.getElem?_cons_zero]; rfl) (by kernel_rfl) (by kernel_rfl) (by kernel_rfl) (fun _ _ _ h => h) (Or.inl ⟨by rfl, ?h12⟩) (by assumption) ?_
  case h12 => (intro w hSw; (try obtain ⟨q0, q1⟩ := hSw); go_simp; try with_reducible rfl)
  try simp only [Act.put, List.setIfInBounds_toArray, List.set_cons_zero, List.set_cons_succ]
  refine wpAnyH_take (i := 13) (v := ?v13) (by simp only [List.getElem?_toArray, List.getElem?_cons_succ, List.getElem?_cons_zero]; rfl) (by kernel_rfl) (by kernel_rfl) (by kernel_rfl) (fun _ _ _ h => h) (Or.inl ⟨by rfl, ?h13⟩) (by assumption) ?_
  case h13 => (intro w hSw; (try obtain ⟨q0, q1⟩ := hSw); go_simp; try with_reducible rfl)
  try simp only [Act.put, List.setIfInBounds_toArray, List.set_cons_zero, List.set_cons_succ]
  refine wpAnyH_take (i := 14) (v := ?v14) (by simp only [List.getElem?_toArray, List.getElem?_cons_succ, List.getElem?_cons_zero]; rfl) (by kernel_rfl) (by kernel_rfl) (by kernel_rfl) (fun _ _ _ h => h) (Or.inl ⟨by rfl, ?h14⟩) (by assumption) ?_
  case h14 => (intro w hSw; (try obtain ⟨q0, q1⟩ := hSw); go_simp; try with_reducible rfl)
  try simp only [Act.put, List.setIfInBounds_toArray, List.set_cons_zero, List.set_cons_succ]
  refine wpAnyH_take (i := 15) (v := ?v15) (by simp only [List.getElem?_toArray, List.getElem?_cons_succ, List.getElem?_cons_zero]; rfl) (by kernel_rfl) (by kernel_rfl) (by kernel_rfl) (fun _ _ _ h => h) (Or.inl ⟨by rfl, ?h15⟩) (by assumption) ?_
  case h15 => (intro w hSw; (try obtain ⟨q0, q1⟩ := hSw); go_simp; try with_reducible rfl)
  try simp only [Act.put, List.setIfInBounds_toArray, List.set_cons_zero, List.set_cons_succ]
  refine wpAnyH_take (i := 16) (v := ?v16) (by simp only [List.getElem?_toArray, List.getElem?_cons_succ, List.getElem?_cons_zero]; rfl) (by kernel_rfl) (by kernel_rfl) (by kernel_rfl) (fun _ _ _ h => h) (Or.inl ⟨by rfl, ?h16⟩) (by assumption) ?_
  case h16 => (intro w hSw; (try obtain ⟨q0, q1⟩ := hSw); go_simp; try with_reducible rfl)
  try simp only [Act.put, List.setIfInBounds_toArray, List.set_cons_zero, List.set_cons_succ]
  refine wpAnyH_take (i := 17) (v := ?v17) (by simp only [List.getElem?_toArray, List.getElem?_cons_succ, List.getElem?_cons_zero]; rfl) (by kernel_rfl) (by kernel_rfl) (by kernel_rfl) (fun _ _ _ h => h) (Or.inl ⟨by rfl, ?h17⟩) (by assumption) ?_
  case h17 => (intro w hSw; (try obtain ⟨q0, q1⟩ := hSw); go_simp; try with_reducible rfl)
  try simp only [Act.put, List.setIfInBounds_toArray, List.set_cons_zero, List.set_cons_succ]
  refine wpAnyH_take (i := 18) (v := ?v18) (by simp only [List.getElem?_toArray, List.getElem?_cons_succ, List.getElem?_cons_zero]; rfl) (by kernel_rfl) (by kernel_rfl) (by kernel_rfl) (fun _ _ _ h => h) (Or.inl ⟨by rfl, ?h18⟩) (by assumption) ?_
  case h18 => (intro w hSw; (try obtain ⟨q0, q1⟩ := hSw); go_simp; try with_reducible rfl)
  try simp only [Act.put, List.setIfInBounds_toArray, List.set_cons_zero, List.set_cons_succ]
  refine wpAnyH_take (i := 19) (v := ?v19) (by simp only [List.getElem?_toArray, List.getElem?_cons_succ, List.getElem?_cons_zero]; rfl) (by kernel_rfl) (by kernel_rfl) (by kernel_rfl) (fun _ _ _ h => h) (Or.inl ⟨by rfl, ?h19⟩) (by assumption) ?_
  case h19 => (intro w hSw; (try obtain ⟨q0, q1⟩ := hSw); go_simp; try with_reducible rfl)
  try simp only [Act.put, List.setIfInBounds_toArray, List.set_cons_zero, List.set_cons_succ]
  refine wpAnyH_take (i := 20) (v := ?v20) (by simp only [List.getElem?_toArray, List.getElem?_cons_succ, List.getElem?_cons_zero]; rfl) (by kernel_rfl) (by kernel_rfl) (by kernel_rfl) (fun _ _ _ h => h) (Or.inl ⟨by rfl, ?h20⟩) (by assumption) ?_
  case h20 => (intro w hSw; (try obtain ⟨q0, q1⟩ := hSw); go_simp; try with_reducible rfl)
  try simp only [Act.put, List.setIfInBounds_toArray, List.set_cons_zero, List.set_cons_succ]
  refine wpAnyH_take (i := 21) (v := ?v21) (by simp only [List.getElem?_toArray, List.getElem?_cons_succ, List.getElem?_cons_zero]; rfl) (by kernel_rfl) (by kernel_rfl) (by kernel_rfl) (fun _ _ _ h => h) (Or.inl ⟨by rfl, ?h21⟩) (by assumption) ?_
  case h21 => (intro w hSw; (try obtain ⟨q0, q1⟩ := hSw); go_simp; try with_reducible rfl)
  try simp only [Act.put, List.setIfInBounds_toArray, List.set_cons_zero, List.set_cons_succ]
  refine wpAnyH_take (i := 22) (v := ?v22) (by simp only [List.getElem?_toArray, List.getElem?_cons_succ, List.getElem?_cons_zero]; rfl) (by kernel_rfl) (by kernel_rfl) (by kernel_rfl) (fun _ _ _ h => h) (Or.inl ⟨by rfl, ?h22⟩) (by assumption) ?_
  case h22 => (intro w hSw; (try obtain ⟨q0, q1⟩ := hSw); go_simp; try with_reducible rfl)
  try simp only [Act.put, List.setIfInBounds_toArray, List.set_cons_zero, List.set_cons_succ]
  refine wpAnyH_take (i := 24) (v := ?v24) (by simp only [List.getElem?_toArray, List.getElem?_cons_succ, List.getElem?_cons_zero]; rfl) (by kernel_rfl) (by kernel_rfl) (by kernel_rfl) (fun _ _ _ h => h) (Or.inl ⟨by rfl, ?h24⟩) (by assumption) ?_
  case h24 => (intro w hSw; (try obtain ⟨q0, q1⟩ := hSw); go_simp; try with_reducible rfl)
  try simp only [Act.put, List.setIfInBounds_toArray, List.set_cons_zero, List.set_cons_succ]
  refine wpAnyH_take (i := 25) (v := ?v25) (by simp only [List.getElem?_toArray, List.getElem?_cons_succ, List.getElem?_cons_zero]; rfl) (by kernel_rfl) (by kernel_rfl) (by kernel_rfl) (fun _ _ _ h => h) (Or.inl ⟨by rfl, ?h25⟩) (by assumption) ?_
  case h25 => (intro w hSw; (try obtain ⟨q0, q1⟩ := hSw); go_simp; try with_reducible rfl)
  try simp only [Act.put, List.setIfInBounds_toArray, List.set_cons_zero, List.set_cons_succ]
  refine wpAnyH_take (i := 26) (v := ?v26) (by simp only [List.getElem?_toArray, List.getElem?_cons_succ, List.getElem?_cons_zero]; rfl) (by kernel_rfl) (by kernel_rfl) (by kernel_rfl) (fun _ _ _ h => h) (Or.inl ⟨by rfl, ?h26⟩) (by assumption) ?_
  case h26 => (intro w hSw; (try obtain ⟨q0, q1⟩ := hSw); go_simp; try with_reducible rfl)
  try simp only [Act.put, List.setIfInBounds_toArray, List.set_cons_zero, List.set_cons_succ]
  refine wpAnyH_take (i := 27) (v := ?v27) (by simp only [List.getElem?_toArray, List.getElem?_cons_succ, List.getElem?_cons_zero]; rfl) (by kernel_rfl) (by kernel_rfl) (by kernel_rfl) (fun _ _ _ h => h) (Or.inl ⟨by rfl, ?h27⟩) (by assumption) ?_
  case h27 => (intro w hSw; (try obtain ⟨q0, q1⟩ := hSw); go_simp; try with_reducible rfl)
  try simp only [Act.put, List.setIfInBounds_toArray, List.set_cons_zero, List.set_cons_succ]
  have k0' : (w.drew.alloc (.cells #[.int .u8 (IntKind.u8.wrap (((ys.length : Int) + 2) / 16777216)), .int .u8 (IntKind.u8.wrap (((ys.length : Int) + 2) / 65536)), .int .u8 (IntKind.u8.wrap (((ys.length : Int) + 2) / 256)), .int .u8 (IntKind.u8.wrap ((ys.length : Int) + 2)), .int .u8 (IntKind.u8.wrap (IntKind.u16.wrap kd / 256)), .int .u8 (IntKind.u8.wrap kd)] 5)).cell? ⟨m, 0, none⟩ = some (.int .i16 kd) := (hm.drew.alloc _).cell 0 rfl
  have k1' : (w.drew.alloc (.cells #[.int .u8 (IntKind.u8.wrap (((ys.length : Int) + 2) / 16777216)), .int .u8 (IntKind.u8.wrap (((ys.length : Int) + 2) / 65536)), .int .u8 (IntKind.u8.wrap (((ys.length : Int) + 2) / 256)), .int .u8 (IntKind.u8.wrap ((ys.length : Int) + 2)), .int .u8 (IntKind.u8.wrap (IntKind.u16.wrap kd / 256)), .int .u8 (IntKind.u8.wrap kd)] 5)).cell? ⟨m, 1, none⟩ = some (.slice A ys.length c) := (hm.drew.alloc _).cell 1 rfl
  refine wpAnyH_ready (rs := [23]) (by kernel_rfl) (by simp) ?_
  refine AllReadyH.cons (o := _) rfl (fun K hK => ?_) AllReadyH.nil
  go_simp
  refine hK.out _ _ ⟨k0', k1'⟩ (fun hHeld2 => ?_)
  clear hK K
  try simp only [Act.put, List.setIfInBounds_toArray, List.set_cons_zero, List.set_cons_succ]
  refine wpAnyH_ready (rs := [28]) (by kernel_rfl) (by simp) ?_
  refine AllReadyH.cons (o := _) rfl (fun K hK => ?_) AllReadyH.nil
  refine step_append_bytes 39 rfl rfl (.tmp 34) (.tmp 38) rfl w.heap.size (.slice (some ⟨w.heap.size, 0, none⟩) 6 6) _ rfl (own_six w _ _ _ _ _ _) A ys.length c ys rfl rfl (hs.keep fun ad e => Below.heap_alloc w _ _ (hA ad e)) (by simp; omega) (by simp) (ys.length + 6) (by simp; omega) ?_
  intro A' c' w2 ho2 hg2 hat2
  refine hK.out _ _ ?_ (fun hHeld3 => ?_)
  · have hm2 : Rec w2 m [.int .i16 kd, .slice A ys.length c] 73 := (hg2.block m (by show m < (w.heap.push _).size; rw [Array.size_push]; omega) (by simp only [Value.ownBlock]; intro e; injection e with e; omega)).trans (hm.alloc _)
    exact ⟨hm2.cell 0 rfl, hm2.cell 1 rfl⟩
  clear hK K
  try simp only [Act.put, List.setIfInBounds_toArray, List.set_cons_zero, List.set_cons_succ]
  refine wpAnyH_take (i := 29) (v := ?v29) (by simp only [List.getElem?_toArray, List.getElem?_cons_succ, List.getElem?_cons_zero]; rfl) (by kernel_rfl) (by kernel_rfl) (by kernel_rfl) (fun _ _ _ h => h) (Or.inl ⟨by rfl, ?h29⟩) (by assumption) ?_
  case h29 => (intro w hSw; (try obtain ⟨q0, q1⟩ := hSw); go_simp; try with_reducible rfl)
  try simp only [Act.put, List.setIfInBounds_toArray, List.set_cons_zero, List.set_cons_succ]
  refine wpAnyH_done (by kernel_rfl) ?_ _
  refine NoPanic.normal ?_
  go_wp2
  go_ret
  rw [head6_eq _ _ hl hk0 hk1] at ho2
  refine ⟨_, rfl, ho2, ?_⟩
  exact pw_below_grown ((Below.refl w.heap.size w).alloc (Nat.le_refl _) _).drew _ (by show w.heap.size ≤ (w.heap.push _).size; rw [Array.size_push]; omega) hg2 (fun k hk => by simp [Value.ownBlock] at hk; omega)
end Go.Proofs.Ythkblefeifdhaaa.H
