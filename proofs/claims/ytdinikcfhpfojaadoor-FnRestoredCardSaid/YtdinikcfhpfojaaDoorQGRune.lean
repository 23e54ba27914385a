/- (No row is turned.) Steps over readline's buffer that move its cursor: what each makes of it; no condition but bounds that its callers meet. -/
import Derived.Test.YtdinikcfhpfojaaDoorQGFrame
import Derived.Test.YtdinikcfhpfojaaDoorQHKeys
namespace Go.Proofs.YtdinikcfhpfojaaDoor.G
open Go.RowKit Go.Proofs.YtdinikcfhpfojaaDoor.H Go.Proofs.YtdinikcfhpfojaaDoorW.PrintWords Go.Proofs.YtdinikcfhpfojaaDoorW.PrintLast Go.Proofs.YtdinikcfhpfojaaDoor.R
set_option linter.unusedVariables false
set_option linter.unusedSimpArgs false
attribute [local go_sem ↓] Go.wp_at_zero Go.wp_at_succ
def kfwd (s : KS) : KS := { s with idx := if s.idx = s.buf.length then s.idx else s.idx + 1 }
structure Rest where
  (p2 p3 p4 p5 p6 p7 p8 p9 : Value)
def rbc (bv : Value) (i : Int) (q : Rest) (kv : Value) : List Value := [bv, .int .i64 i, q.p2, q.p3, q.p4, q.p5, q.p6, q.p7, q.p8, q.p9, kv]
/-- The buffer at block m is in state s; its rows are of the call's own, from block B on. -/
def RB (w : World) (B m : Nat) (q : Rest) (s : KS) : Prop :=
  ∃ bv kv, Rec w m (rbc bv s.idx q kv) 89 ∧ Own w B bv s.buf ∧ Own w B kv s.kill ∧ (∀ k, bv.ownBlock = some k → kv.ownBlock ≠ some k) ∧ B ≤ m ∧ s.idx ≤ s.buf.length
abbrev Pt (m : Nat) : Value := .pointer (some ⟨m, 0, none⟩)
abbrev At (m : Nat) (k : Nat) : Prop := k = m
theorem made_f (fn : Fn) (first cap : Array Value) (w : World) : (Instr.makeFunc fn first cap).run Tryd.prog w = .ok (.func fn first cap) w := rfl
theorem RB.alloc {w : World} {B m : Nat} {q : Rest} {s : KS} (h : RB w B m q s) (o : Obj) : RB (w.alloc o) B m q s := by
  obtain ⟨bv, kv, hm, hb, hk, hd, hB, hi⟩ := h
  exact ⟨bv, kv, hm.alloc o, hb.alloc o, hk.alloc o, hd, hB, hi⟩
theorem RB.below {w w1 : World} {B m : Nat} {q : Rest} {s : KS} (h : RB w B m q s) (hb1 : Below w.heap.size w w1) : RB w1 B m q s := by
  obtain ⟨bv, kv, hm, hb, hk, hd, hB, hi⟩ := h
  exact ⟨bv, kv, hm.stays hb1, hb.below hb1, hk.below hb1, hd, hB, hi⟩
theorem RB.lt {w : World} {B m : Nat} {q : Rest} {s : KS} (h : RB w B m q s) : B ≤ m ∧ m < w.heap.size := by
  obtain ⟨bv, kv, hm, hb, hk, hd, hB, hi⟩ := h
  exact ⟨hB, hm.lt⟩
theorem RB.one {w : World} {B m : Nat} {q : Rest} {s : KS} (h : RB w B m q s) {b : Nat} {v u : Value} {t : TypeId} (ho : One w b v t) (ht : t ≠ 21) (hm : b ≠ m) : RB (w.setCell ⟨b, 0, none⟩ u) B m q s := by
  obtain ⟨bv, kv, h1, hb, hk, hd, hB, hi⟩ := h
  exact ⟨bv, kv, h1.other (a := ⟨b, 0, none⟩) (by show m ≠ b; omega) u, hb.set_one ho ht u, hk.set_one ho ht u, hd, hB, hi⟩
/-- The cursor is stored. -/
theorem rb_idx {w : World} {B m : Nat} {q : Rest} {bv kv : Value} {i j : Nat} {xs ys : List Int} (hm : Rec w m (rbc bv i q kv) 89) (hb : Own w B bv xs) (hk : Own w B kv ys) (hd : ∀ k, bv.ownBlock = some k → kv.ownBlock ≠ some k) (hB : B ≤ m) (hj : j ≤ xs.length) (n : Nat) :
    RB ((w.drewN n).setCell ⟨m, 1, none⟩ (.int .i64 j)) B m q ⟨xs, j, ys⟩ :=
  ⟨bv, kv, (hm.drewN n).set 1 (.int .i64 j), (hb.drewN n).set (hm.drewN n) (by decide) 1 _, (hk.drewN n).set (hm.drewN n) (by decide) 1 _, hd, hB, hj⟩
theorem func_neq_nil (g : Nat) (caps : Array Value) (w : World) : (binOp .neq 1 (.func (.func g) #[] caps) .nilFunc).run Tryd.prog w = .ok (.bool true) w := by
  have h : ∀ d : Nat, (Op.equalIn (d + 1) 1 (.func (.func g) #[] caps) .nilFunc).run Tryd.prog w = .ok false w := fun d => by
    simp [Op.equalIn, run_underlying Tryd.underlying1]
  simp only [binOp]
  simp [Op.equal, Op.maxDepth, h 9999]
theorem Refresh_calls (g : Nat) (caps : Array Value) (p : Value) (w : World) (R : World → Prop) (hcf : ∀ args w, (callFunc g args).run Tryd.prog w = .ok (.enter g args) w)
    (hg : Calls Tryd.prog g caps w fun e w' => e = .returned (.tuple #[]) ∧ R w') : Calls Tryd.prog 60 #[p, .func (.func g) #[] caps] w fun e w' => e = .returned (.tuple #[]) ∧ R w' := by
  have HG := Lib.hid hg
  clear hg
  have hn := func_neq_nil g caps
  go_enter Tryd.func60, Tryd.ntmps60
  go_wp2_with ((with_reducible refine HG.out.mono ?_); rintro e w1 ⟨rfl, hR1⟩)
  go_end0
  exact ⟨rfl, hR1⟩
theorem fr_at {B m : Nat} {w w1 : World} (h : Fr B (At m) w w1) (hB : B ≤ m) (i : Nat) (u : Value) : Fr B (At m) w (w1.setCell ⟨m, i, none⟩ u) := h.set (.inl (Eq.refl m)) hB i u
theorem fr_idx {B m : Nat} {w : World} (n : Nat) (hB : B ≤ m) (i : Nat) (u : Value) : Fr B (At m) w ((w.drewN n).setCell ⟨m, i, none⟩ u) := fr_at ((Fr.refl _ _ _).drewN _) hB i u
theorem rb_idx0 {w : World} {B m : Nat} {q : Rest} {bv kv : Value} {i j : Nat} {xs ys : List Int} (hm : Rec w m (rbc bv i q kv) 89) (hb : Own w B bv xs) (hk : Own w B kv ys) (hd : ∀ k, bv.ownBlock = some k → kv.ownBlock ≠ some k) (hB : B ≤ m) (hj : j ≤ xs.length) :
    RB (w.setCell ⟨m, 1, none⟩ (.int .i64 j)) B m q ⟨xs, j, ys⟩ := rb_idx hm hb hk hd hB hj 0
theorem fr_idx0 {B m : Nat} {w : World} (hB : B ≤ m) (i : Nat) (u : Value) : Fr B (At m) w (w.setCell ⟨m, i, none⟩ u) := fr_at (Fr.refl _ _ _) hB i u
set_option maxHeartbeats 1000000 in
theorem fwd_closure (q m B : Nat) (s : KS) (r : Rest) (w : World) (ho : One w q (Pt m) 68) (h : RB w B m r s) (hl : s.buf.length ≤ 1000000000) :
    Calls Tryd.prog 98 #[Pt q] w fun e w' => e = .returned (.tuple #[]) ∧ RB w' B m r (kfwd s) ∧ Fr B (At m) w w' := by
  obtain ⟨bv, kv, hm, hb, hk, hd, hB, hi⟩ := h
  obtain ⟨buf, idx, kill⟩ := s
  dsimp only at *
  obtain ⟨A, c, rfl, hlc, hcm, hA⟩ := hb.form
  clear hA
  have c0 := ho.cell
  have k0 := hm.cell 0 rfl
  have k1 := hm.cell 1 rfl
  have z1 := hm.free 1
  by_cases he : idx = buf.length
  · rw [show kfwd ⟨buf, idx, kill⟩ = ⟨buf, idx, kill⟩ by simp [kfwd, he]]
    subst he
    go_enter Tryd.func98, Tryd.ntmps98
    go_wp2
    go_quiet (fail)
    go_wp2
    refine bodyPost_ret (results_none rfl _ _ _) rfl ?_
    exact ⟨rfl, ⟨_, _, hm.drewN _, hb.drewN _, hk.drewN _, hd, hB, hi⟩, (Fr.refl _ _ _).drewN _⟩
  · rw [show kfwd ⟨buf, idx, kill⟩ = ⟨buf, idx + 1, kill⟩ by simp [kfwd, he]]
    have hj : idx + 1 ≤ buf.length := by omega
    have hne : (idx == buf.length) = false := beq_eq_false_iff_ne.2 he
    clear he
    go_enter Tryd.func98, Tryd.ntmps98
    go_wp2
    go_quiet (fail)
    go_wp2
    go_end0
    exact ⟨rfl, rb_idx hm hb hk hd hB hj _, fr_idx _ hB _ _⟩
theorem enter98 (args : Array Value) (w : World) : (callFunc 98 args).run Tryd.prog w = .ok (.enter 98 args) w := enters (P := Tryd.prog) Tryd.func98 (by kernel_rfl) rfl args w
set_option maxHeartbeats 1000000 in
theorem fwd_calls (m B : Nat) (s : KS) (r : Rest) (w : World) (h : RB w B m r s) (hl : s.buf.length ≤ 1000000000) :
    Calls Tryd.prog 64 #[Pt m] w fun e w' => e = .returned (.tuple #[]) ∧ RB w' B m r (kfwd s) ∧ Fr B (At m) w w' := by
  have ho := One.new w (Pt m) 68
  have hB := h.lt
  have HC := Lib.hid (Refresh_calls 98 #[Pt w.heap.size] (Pt m) _ _ enter98 (fwd_closure w.heap.size m B s r _ ho (h.alloc _) hl))
  have c0 := ho.cell
  have hmf := made_f
  clear ho h
  go_enter Tryd.func64, Tryd.ntmps64
  go_wp2_with (go_at_call 60; refine HC.out.mono ?_; rintro e w1 ⟨rfl, hR, hF⟩)
  go_end0
  exact ⟨rfl, hR, Fr.narrow ((Below.refl _ _).alloc (Nat.le_refl _) _) hF (by omega) (fun _ _ h => h)⟩
set_option maxHeartbeats 1000000 in
theorem bwd_closure (q m B : Nat) (s : KS) (r : Rest) (w : World) (ho : One w q (Pt m) 68) (h : RB w B m r s) (hl : s.buf.length ≤ 1000000000) :
    Calls Tryd.prog 99 #[Pt q] w fun e w' => e = .returned (.tuple #[]) ∧ RB w' B m r { s with idx := s.idx - 1 } ∧ Fr B (At m) w w' := by
  obtain ⟨bv, kv, hm, hb, hk, hd, hB, hi⟩ := h
  obtain ⟨buf, idx, kill⟩ := s
  dsimp only at *
  obtain ⟨A, c, rfl, hlc, hcm, hA⟩ := hb.form
  clear hA
  have c0 := ho.cell
  have k0 := hm.cell 0 rfl
  have k1 := hm.cell 1 rfl
  have z1 := hm.free 1
  by_cases he : idx = 0
  · subst he
    go_enter Tryd.func99, Tryd.ntmps99
    go_wp2
    refine bodyPost_ret (results_none rfl _ _ _) rfl ?_
    exact ⟨rfl, ⟨_, _, hm, hb, hk, hd, hB, hi⟩, Fr.refl _ _ _⟩
  · have hj : idx - 1 ≤ buf.length := by omega
    have hne : ((idx : Int) == 0) = false := beq_eq_false_iff_ne.2 (by omega)
    have hx : ((idx - 1 : Nat) : Int) = (idx : Int) - 1 := by omega
    have HX := Lib.hid hx
    have h1 : 1 ≤ idx := by omega
    clear he hx
    have HR := Lib.hid (rb_idx0 (j := idx - 1) hm hb hk hd hB hj)
    rw [HX.out] at HR
    go_enter Tryd.func99, Tryd.ntmps99
    go_wp2
    go_end0
    exact ⟨rfl, HR.out, fr_idx0 hB _ _⟩
theorem enter99 (args : Array Value) (w : World) : (callFunc 99 args).run Tryd.prog w = .ok (.enter 99 args) w := enters (P := Tryd.prog) Tryd.func99 (by kernel_rfl) rfl args w
set_option maxHeartbeats 1000000 in
theorem bwd_calls (m B : Nat) (s : KS) (r : Rest) (w : World) (h : RB w B m r s) (hl : s.buf.length ≤ 1000000000) :
    Calls Tryd.prog 65 #[Pt m] w fun e w' => e = .returned (.tuple #[]) ∧ RB w' B m r { s with idx := s.idx - 1 } ∧ Fr B (At m) w w' := by
  have ho := One.new w (Pt m) 68
  have hB := h.lt
  have HC := Lib.hid (Refresh_calls 99 #[Pt w.heap.size] (Pt m) _ _ enter99 (bwd_closure w.heap.size m B s r _ ho (h.alloc _) hl))
  have c0 := ho.cell
  have hmf := made_f
  clear ho h
  go_enter Tryd.func65, Tryd.ntmps65
  go_wp2_with (go_at_call 60; refine HC.out.mono ?_; rintro e w1 ⟨rfl, hR, hF⟩)
  go_end0
  exact ⟨rfl, hR, Fr.narrow ((Below.refl _ _).alloc (Nat.le_refl _) _) hF (by omega) (fun _ _ h => h)⟩
set_option maxHeartbeats 1000000 in
theorem start_closure (q m B : Nat) (s : KS) (r : Rest) (w : World) (ho : One w q (Pt m) 68) (h : RB w B m r s) (hl : s.buf.length ≤ 1000000000) :
    Calls Tryd.prog 100 #[Pt q] w fun e w' => e = .returned (.tuple #[]) ∧ RB w' B m r { s with idx := 0 } ∧ Fr B (At m) w w' := by
  obtain ⟨bv, kv, hm, hb, hk, hd, hB, hi⟩ := h
  obtain ⟨buf, idx, kill⟩ := s
  dsimp only at *
  obtain ⟨A, c, rfl, hlc, hcm, hA⟩ := hb.form
  clear hA
  have c0 := ho.cell
  have k0 := hm.cell 0 rfl
  have k1 := hm.cell 1 rfl
  have z1 := hm.free 1
  by_cases he : idx = 0
  · subst he
    go_enter Tryd.func100, Tryd.ntmps100
    go_wp2
    refine bodyPost_ret (results_none rfl _ _ _) rfl ?_
    exact ⟨rfl, ⟨_, _, hm, hb, hk, hd, hB, hi⟩, Fr.refl _ _ _⟩
  · have hne : ((idx : Int) == 0) = false := beq_eq_false_iff_ne.2 (by omega)
    clear he
    go_enter Tryd.func100, Tryd.ntmps100
    go_wp2
    go_end0
    exact ⟨rfl, rb_idx0 (j := 0) hm hb hk hd hB (Nat.zero_le _), fr_idx0 hB _ _⟩
theorem enter100 (args : Array Value) (w : World) : (callFunc 100 args).run Tryd.prog w = .ok (.enter 100 args) w := enters (P := Tryd.prog) Tryd.func100 (by kernel_rfl) rfl args w
set_option maxHeartbeats 1000000 in
theorem start_calls (m B : Nat) (s : KS) (r : Rest) (w : World) (h : RB w B m r s) (hl : s.buf.length ≤ 1000000000) :
    Calls Tryd.prog 66 #[Pt m] w fun e w' => e = .returned (.tuple #[]) ∧ RB w' B m r { s with idx := 0 } ∧ Fr B (At m) w w' := by
  have ho := One.new w (Pt m) 68
  have hB := h.lt
  have HC := Lib.hid (Refresh_calls 100 #[Pt w.heap.size] (Pt m) _ _ enter100 (start_closure w.heap.size m B s r _ ho (h.alloc _) hl))
  have c0 := ho.cell
  have hmf := made_f
  clear ho h
  go_enter Tryd.func66, Tryd.ntmps66
  go_wp2_with (go_at_call 60; refine HC.out.mono ?_; rintro e w1 ⟨rfl, hR, hF⟩)
  go_end0
  exact ⟨rfl, hR, Fr.narrow ((Below.refl _ _).alloc (Nat.le_refl _) _) hF (by omega) (fun _ _ h => h)⟩
set_option maxHeartbeats 1000000 in
theorem kend_closure (q m B : Nat) (s : KS) (r : Rest) (w : World) (ho : One w q (Pt m) 68) (h : RB w B m r s) (hl : s.buf.length ≤ 1000000000) :
    Calls Tryd.prog 101 #[Pt q] w fun e w' => e = .returned (.tuple #[]) ∧ RB w' B m r { s with idx := s.buf.length } ∧ Fr B (At m) w w' := by
  obtain ⟨bv, kv, hm, hb, hk, hd, hB, hi⟩ := h
  obtain ⟨buf, idx, kill⟩ := s
  dsimp only at *
  obtain ⟨A, c, rfl, hlc, hcm, hA⟩ := hb.form
  clear hA
  have c0 := ho.cell
  have k0 := hm.cell 0 rfl
  have k1 := hm.cell 1 rfl
  have z1 := hm.free 1
  by_cases he : idx = buf.length
  · subst he
    go_enter Tryd.func101, Tryd.ntmps101
    go_wp2
    go_quiet (fail)
    go_wp2
    refine bodyPost_ret (results_none rfl _ _ _) rfl ?_
    exact ⟨rfl, ⟨_, _, hm.drewN _, hb.drewN _, hk.drewN _, hd, hB, hi⟩, (Fr.refl _ _ _).drewN _⟩
  · have hne : (idx == buf.length) = false := beq_eq_false_iff_ne.2 he
    clear he
    go_enter Tryd.func101, Tryd.ntmps101
    go_wp2
    go_quiet (fail)
    go_wp2
    go_region
    go_end0
    exact ⟨rfl, rb_idx hm hb hk hd hB (Nat.le_refl _) _, fr_idx _ hB _ _⟩
theorem enter101 (args : Array Value) (w : World) : (callFunc 101 args).run Tryd.prog w = .ok (.enter 101 args) w := enters (P := Tryd.prog) Tryd.func101 (by kernel_rfl) rfl args w
set_option maxHeartbeats 1000000 in
theorem kend_calls (m B : Nat) (s : KS) (r : Rest) (w : World) (h : RB w B m r s) (hl : s.buf.length ≤ 1000000000) :
    Calls Tryd.prog 67 #[Pt m] w fun e w' => e = .returned (.tuple #[]) ∧ RB w' B m r { s with idx := s.buf.length } ∧ Fr B (At m) w w' := by
  have ho := One.new w (Pt m) 68
  have hB := h.lt
  have HC := Lib.hid (Refresh_calls 101 #[Pt w.heap.size] (Pt m) _ _ enter101 (kend_closure w.heap.size m B s r _ ho (h.alloc _) hl))
  have c0 := ho.cell
  have hmf := made_f
  clear ho h
  go_enter Tryd.func67, Tryd.ntmps67
  go_wp2_with (go_at_call 60; refine HC.out.mono ?_; rintro e w1 ⟨rfl, hR, hF⟩)
  go_end0
  exact ⟨rfl, hR, Fr.narrow ((Below.refl _ _).alloc (Nat.le_refl _) _) hF (by omega) (fun _ _ h => h)⟩
end Go.Proofs.YtdinikcfhpfojaaDoor.G
