/- A manager of suggestions (goprompt's CompletionManager), stepped over: what each step makes of it. The number of suggestions and of those shown are bounded by the callers; no other condition. -/
import Derived.Test.YthkblefeifdhaaaHRec
namespace Go.Proofs.Ythkblefeifdhaaa.H
open Go.RowKit Go.Proofs.YthkblefeifdhaaaW.PrintWords Go.Proofs.YthkblefeifdhaaaW.PrintLast
set_option linter.unusedVariables false
set_option linter.unusedSimpArgs false
attribute [local go_sem ↓] Go.wp_at_zero Go.wp_at_succ

/-- The manager's cells. -/
def mgr (sel : Int) (tmp : Value) (most : Int) (g q : Nat) (sc : Int) : List Value := [.int .i64 sel, tmp, .int .u16 most, .func (.func g) #[] #[.pointer (some ⟨q, 0, none⟩)], .int .i64 sc, .string ⟨#[]⟩, .bool false]
def upd (n : Nat) (most : Int) (p : Int × Int) : Int × Int := if (n : Int) ≤ p.1 then (-1, 0) else if p.1 < -1 then (n - 1, n - (if (n : Int) < most then (n : Int) else most)) else p
def nxt (n : Nat) (most : Int) (p : Int × Int) : Int × Int := upd n most (p.1 + 1, if p.2 + most - 1 = p.1 then p.2 + 1 else p.2)
def prv (n : Nat) (most : Int) (p : Int × Int) : Int × Int := upd n most (p.1 - 1, if p.2 = p.1 ∧ p.1 > 0 then p.2 - 1 else p.2)
def pick1 (n : Nat) (most : Int) (p : Int × Int) (s : Int) : Int × Int := if s = 1 then nxt n most p else if s = 2 then prv n most p else if s = 3 then (-1, 0) else p
/-- What each step keeps. -/
def Kept (n : Nat) (p : Int × Int) : Prop := -1 ≤ p.1 ∧ p.1 ≤ n ∧ 0 ≤ p.2 ∧ p.2 ≤ n + 2
/-- The closure that hands the suggestions on. -/
def Hands (g q : Nat) (sl : Value) : Prop := ∀ (d0 d1 : Value) (w : World), One w q sl 124 → Calls Try.prog g #[.agg #[d0, d1], .pointer (some ⟨q, 0, none⟩)] w fun e w' => e = .returned sl ∧ Below w.heap.size w w'

theorem enter_g (g : Nat) (fn : Func) (c : Code) (hf : Try.prog.funcs[g]? = some fn) (hname : (fn.name == "runtime.NumGoroutine") = false) (hb : fn.body = some c) (args : Array Value) (w : World) : (callFunc g args).run Try.prog w = .ok (.enter g args) w :=
  enters (P := Try.prog) hf hname hb args w

set_option maxHeartbeats 1000000 in
theorem newDoc_calls (w : World) : Calls Try.prog 104 #[] w fun e w' => e = .returned (.pointer (some ⟨w.heap.size, 0, none⟩)) ∧ w' = w.alloc (.cells #[.string ⟨#[]⟩, .int .i64 0] 127) := by
  go_enter Try.func104, Try.ntmps104
  go_wp2
  go_ret
  exact ⟨rfl, rfl⟩

set_option maxRecDepth 100000 in
set_option maxHeartbeats 4000000 in
theorem Update_calls (m g q n c : Nat) (A : Option Addr) (sel most sc : Int) (tmp d0 d1 : Value) (w : World) (hm : Rec w m (mgr sel tmp most g q sc) 131) (hq : One w q (.slice A n c) 124) (hqm : q < m) (HG : Hands g q (.slice A n c)) (hen : ∀ args w, (callFunc g args).run Try.prog w = .ok (.enter g args) w) :
    Calls Try.prog 103 #[.pointer (some ⟨m, 0, none⟩), .agg #[d0, d1]] w fun e w' => e = .returned (.tuple #[]) ∧ Rec w' m (mgr sel (.slice A n c) most g q sc) 131 ∧ Below m w w' := by
  have HH := Lib.hid HG
  clear HG
  have c3 := hm.cell 3 rfl
  have hB := ((Below.refl w.heap.size w).alloc (Nat.le_refl _) (.cells #[d0, d1] 127))
  have hd := Rec.new w [d0, d1] 127
  have hm1 : Rec _ _ _ _ := hm.alloc (.cells #[d0, d1] 127)
  have hq1 := hq.alloc (.cells #[d0, d1] 127)
  go_enter Try.func103, Try.ntmps103
  go_wp2
  have hmw := hm.lt
  generalize hb : w.heap.size = b at *
  generalize w.alloc (.cells #[d0, d1] 127) = W at *
  have k3 := hm1.cell 3 rfl
  have k4 := hm1.cell 1 rfl
  have k5 := hm1.free 1
  have k0 := hd.cell 0 rfl
  have k1 := hd.cell 1 rfl
  have HM := Lib.hid hm1
  have HQ := Lib.hid hq1
  have HD := Lib.hid hd
  have hWs := hm1.lt
  have hWd := hd.lt
  clear hm1 hq1 hd c3
  go_region_held3 (fun w' => w'.cell? ⟨m, 3, none⟩ = some (.func (.func g) #[] #[.pointer (some ⟨q, 0, none⟩)]) ∧ w'.cell? ⟨b, 0, none⟩ = some d0 ∧ w'.cell? ⟨b, 1, none⟩ = some d1) (first | go_keep | (exact ⟨hR1.cell 3 rfl, hD1.cell 0 rfl, hD1.cell 1 rfl⟩) | (exact ⟨(hR1.set 1 _).cell 3 rfl, (hD1.other (a := ⟨m, 1, none⟩) (by show b ≠ m; omega) _).cell 0 rfl, (hD1.other (a := ⟨m, 1, none⟩) (by show b ≠ m; omega) _).cell 1 rfl⟩))
    (first
      | (refine (HH.out _ _ _ (by first | exact HQ.out | exact HQ.out.drewN _)).mono ?_; rintro e w1 ⟨rfl, hb1⟩; have hR1 : Rec w1 m _ _ := (hb1.block m (by show m < W.heap.size; omega)).trans HM.out; have hD1 : Rec w1 b _ _ := (hb1.block b (by show b < W.heap.size; omega)).trans HD.out; have e1 : w1.cell? ⟨m, 1, none⟩ = some tmp := hR1.cell 1 rfl; have z1 : w1.frozen? ⟨m, 1, none⟩ = false := hR1.free 1))
  go_end0
  refine ⟨rfl, hR1.set 1 _, ?_⟩
  have hb2 : Below m W w1 := ⟨hb1.os, hb1.tape, hb1.output, hb1.size, fun k hk => hb1.block k (by show k < W.heap.size; omega)⟩
  exact below_put ((hB.mono (by omega)).trans hb2) (Nat.le_refl _) _ _

section
variable (m g q n c : Nat) (A : Option Addr) (most : Int) (HG : Hands g q (.slice A n c)) (hen : ∀ args w, (callFunc g args).run Try.prog w = .ok (.enter g args) w) (hqm : q < m)
include HG hen hqm

set_option maxHeartbeats 2000000 in
theorem Reset_calls (sel sc : Int) (tmp : Value) (w : World) (hm : Rec w m (mgr sel tmp most g q sc) 131) (hq : One w q (.slice A n c) 124) :
    Calls Try.prog 86 #[.pointer (some ⟨m, 0, none⟩)] w fun e w' => e = .returned (.tuple #[]) ∧ Rec w' m (mgr (-1) (.slice A n c) most g q 0) 131 ∧ Below m w w' := by
  have c0 := hm.cell 0 rfl
  have z0 := hm.free 0
  have h1 := hm.set 0 (.int .i64 (-1))
  have c4 := h1.cell 4 rfl
  have z4 := h1.free 4
  have h2 := h1.set 4 (.int .i64 0)
  have q2 : One _ q _ _ := (hq.other (a := ⟨m, 0, none⟩) (by show q ≠ m; omega) (.int .i64 (-1))).other (a := ⟨m, 4, none⟩) (by show q ≠ m; omega) (.int .i64 0)
  have hB := below_put (below_put (Below.refl m w) (Nat.le_refl _) 0 (.int .i64 (-1))) (Nat.le_refl _) 4 (.int .i64 0)
  have HU := Lib.hid (fun (d0 d1 : Value) (W : World) (h : Rec W m (mgr (-1) tmp most g q 0) 131) (h' : One W q (.slice A n c) 124) => Update_calls m g q n c A (-1) most 0 tmp d0 d1 W h h' hqm HG hen)
  clear hen HG
  go_enter Try.func86, Try.ntmps86
  generalize hW : (w.setCell ⟨m, 0, none⟩ (.int .i64 (-1))).setCell ⟨m, 4, none⟩ (.int .i64 0) = W at *
  have e0 := (Rec.new W [.string ⟨#[]⟩, .int .i64 0] 127).cell 0 rfl
  have e1 := (Rec.new W [.string ⟨#[]⟩, .int .i64 0] 127).cell 1 rfl
  have hms := h2.lt
  go_wp2_with (first | (go_at_call 104; refine (newDoc_calls _).mono ?_; rintro e w1 ⟨rfl, rfl⟩) | (go_at_call 103; refine (HU.out _ _ _ (h2.alloc _) (q2.alloc _)).mono ?_; rintro e w2 ⟨rfl, h3, b3⟩))

  go_end0
  exact ⟨rfl, h3, (hB.alloc (by omega) _).trans b3⟩
set_option maxHeartbeats 4000000 in
theorem update_calls (sel sc : Int) (w : World) (hn : n ≤ 1000) (hmo : 0 ≤ most ∧ most ≤ 65535) (hs : -2 ≤ sel ∧ sel ≤ 1001) (hsc : 0 ≤ sc ∧ sc ≤ 2000) (hm : Rec w m (mgr sel (.slice A n c) most g q sc) 131) (hq : One w q (.slice A n c) 124) :
    Calls Try.prog 105 #[.pointer (some ⟨m, 0, none⟩)] w fun e w' => e = .returned (.tuple #[]) ∧ Rec w' m (mgr (upd n most (sel, sc)).1 (.slice A n c) most g q (upd n most (sel, sc)).2) 131 ∧ Below m w w' := by
  have c0 := hm.cell 0 rfl
  have c1 := hm.cell 1 rfl
  have c2 := hm.cell 2 rfl
  have HR := Lib.hid (fun (W : World) (hb : ∀ k, W.heap[k]? = w.heap[k]?) => Reset_calls m g q n c A most HG hen hqm sel sc (.slice A n c) W ((hb m).trans hm) ((hb q).trans hq))
  clear hen HG
  obtain ⟨m0, m1⟩ := hmo
  obtain ⟨s0, s1⟩ := hs
  obtain ⟨t0, t1⟩ := hsc
  by_cases k1 : (n : Int) ≤ sel
  · rw [show upd n most (sel, sc) = (-1, 0) by simp [upd, k1]]
    have d1 : decide ((n : Int) ≤ sel) = true := decide_eq_true k1
    by_cases k2 : (n : Int) < most
    all_goals
      go_enter Try.func105, Try.ntmps105
      go_wp2
      go_quiet (fail)
      go_wp2_with (go_at_call 86; refine (HR.out (w.drewN _) (fun _ => rfl)).mono ?_; rintro e w1 ⟨rfl, h1, b1⟩)
      go_end0
      exact ⟨rfl, h1, ((Below.refl _ _)).trans ⟨b1.os, b1.tape, b1.output, b1.size, b1.block⟩⟩
  · have d1 : decide ((n : Int) ≤ sel) = false := decide_eq_false k1
    by_cases k3 : sel < -1
    · have z0 := hm.free 0
      have c4 := hm.cell 4 rfl
      have z4 := hm.free 4
      by_cases k2 : (n : Int) < most
      · rw [show upd n most (sel, sc) = ((n : Int) - 1, 0) by simp [upd, k1, k3, k2]]
        go_enter Try.func105, Try.ntmps105
        go_wp2
        go_quiet (fail)
        go_wp2
        go_end0
        exact ⟨rfl, ((hm.drewN _).set 0 _).set 4 _, below_put (below_put (pw_below_drewN (Below.refl _ _) _) (Nat.le_refl _) _ _) (Nat.le_refl _) _ _⟩
      · rw [show upd n most (sel, sc) = ((n : Int) - 1, (n : Int) - most) by simp [upd, k1, k3, k2]]
        go_enter Try.func105, Try.ntmps105
        go_wp2
        go_quiet (fail)
        go_wp2
        go_end0
        exact ⟨rfl, ((hm.drewN _).set 0 _).set 4 _, below_put (below_put (pw_below_drewN (Below.refl _ _) _) (Nat.le_refl _) _ _) (Nat.le_refl _) _ _⟩
    · rw [show upd n most (sel, sc) = (sel, sc) by simp [upd, k1, k3]]
      have d3 : decide (sel < -1) = false := decide_eq_false k3
      by_cases k2 : (n : Int) < most
      all_goals
        go_enter Try.func105, Try.ntmps105
        go_wp2
        go_quiet (fail)
        go_wp2
        go_end0
        exact ⟨rfl, hm, pw_below_drewN (Below.refl _ _) _⟩

set_option maxHeartbeats 4000000 in
theorem Next_calls (sel sc : Int) (w : World) (hn : n ≤ 1000) (hmo : 0 ≤ most ∧ most ≤ 65535) (hs : -1 ≤ sel ∧ sel ≤ 1000) (hsc : 0 ≤ sc ∧ sc ≤ 1999) (hm : Rec w m (mgr sel (.slice A n c) most g q sc) 131) (hq : One w q (.slice A n c) 124) :
    Calls Try.prog 87 #[.pointer (some ⟨m, 0, none⟩)] w fun e w' => e = .returned (.tuple #[]) ∧ Rec w' m (mgr (nxt n most (sel, sc)).1 (.slice A n c) most g q (nxt n most (sel, sc)).2) 131 ∧ Below m w w' := by
  have c0 := hm.cell 0 rfl
  have c2 := hm.cell 2 rfl
  have c4 := hm.cell 4 rfl
  have z0 := hm.free 0
  have z4 := hm.free 4
  have HU := Lib.hid (fun (sel' sc' : Int) (hs : -2 ≤ sel' ∧ sel' ≤ 1001) (hsc : 0 ≤ sc' ∧ sc' ≤ 2000) W hm hq => update_calls m g q n c A most HG hen hqm sel' sc' W hn hmo hs hsc hm hq)
  clear hen HG
  obtain ⟨m0, m1⟩ := hmo
  obtain ⟨s0, s1⟩ := hs
  obtain ⟨t0, t1⟩ := hsc
  by_cases k1 : sc + most - 1 = sel
  · rw [show nxt n most (sel, sc) = upd n most (sel + 1, sc + 1) by simp [nxt, k1]]
    have d1 : ((sc + most - 1) == sel) = true := beq_iff_eq.2 k1
    have HK := Lib.hid k1
    clear k1
    go_enter Try.func87, Try.ntmps87
    go_wp2
    go_quiet (fail)
    go_wp2_with (go_at_call 105; refine (HU.out (sel + 1) (sc + 1) (by omega) (by omega) _ (((hm.drewN _).set 4 _).set 0 _) (((hq.drewN _).other (a := ⟨m, 4, none⟩) (by show q ≠ m; omega) _).other (a := ⟨m, 0, none⟩) (by show q ≠ m; omega) _)).mono ?_; rintro e w1 ⟨rfl, h1, b1⟩)
    go_end0
    exact ⟨rfl, h1, (below_put (below_put (pw_below_drewN (Below.refl _ _) _) (Nat.le_refl _) _ _) (Nat.le_refl _) _ _).trans b1⟩
  · rw [show nxt n most (sel, sc) = upd n most (sel + 1, sc) by simp [nxt, k1]]
    have d1 : ((sc + most - 1) == sel) = false := beq_eq_false_iff_ne.2 k1
    have HK := Lib.hid k1
    clear k1
    go_enter Try.func87, Try.ntmps87
    go_wp2
    go_quiet (fail)
    go_wp2_with (go_at_call 105; refine (HU.out (sel + 1) sc (by omega) (by omega) _ ((hm.drewN _).set 0 _) ((hq.drewN _).other (a := ⟨m, 0, none⟩) (by show q ≠ m; omega) _)).mono ?_; rintro e w1 ⟨rfl, h1, b1⟩)
    go_end0
    exact ⟨rfl, h1, (below_put (pw_below_drewN (Below.refl _ _) _) (Nat.le_refl _) _ _).trans b1⟩

set_option maxHeartbeats 4000000 in
theorem Previous_calls (sel sc : Int) (w : World) (hn : n ≤ 1000) (hmo : 0 ≤ most ∧ most ≤ 65535) (hs : -1 ≤ sel ∧ sel ≤ 1000) (hsc : 0 ≤ sc ∧ sc ≤ 1999) (hm : Rec w m (mgr sel (.slice A n c) most g q sc) 131) (hq : One w q (.slice A n c) 124) :
    Calls Try.prog 88 #[.pointer (some ⟨m, 0, none⟩)] w fun e w' => e = .returned (.tuple #[]) ∧ Rec w' m (mgr (prv n most (sel, sc)).1 (.slice A n c) most g q (prv n most (sel, sc)).2) 131 ∧ Below m w w' := by
  have c0 := hm.cell 0 rfl
  have c4 := hm.cell 4 rfl
  have z0 := hm.free 0
  have z4 := hm.free 4
  have HU := Lib.hid (fun (sel' sc' : Int) (hs : -2 ≤ sel' ∧ sel' ≤ 1001) (hsc : 0 ≤ sc' ∧ sc' ≤ 2000) W hm hq => update_calls m g q n c A most HG hen hqm sel' sc' W hn hmo hs hsc hm hq)
  clear hen HG
  obtain ⟨m0, m1⟩ := hmo
  obtain ⟨s0, s1⟩ := hs
  obtain ⟨t0, t1⟩ := hsc
  by_cases k1 : sc = sel
  · subst k1
    by_cases k2 : sc > 0
    · rw [show prv n most (sc, sc) = upd n most (sc - 1, sc - 1) by simp [prv, k2]]
      go_enter Try.func88, Try.ntmps88
      go_wp2
      go_quiet (fail)
      go_wp2_with (go_at_call 105; refine (HU.out (sc - 1) (sc - 1) (by omega) (by omega) _ (((hm.drewN _).set 4 _).set 0 _) (((hq.drewN _).other (a := ⟨m, 4, none⟩) (by show q ≠ m; omega) _).other (a := ⟨m, 0, none⟩) (by show q ≠ m; omega) _)).mono ?_; rintro e w1 ⟨rfl, h1, b1⟩)
      go_end0
      exact ⟨rfl, h1, (below_put (below_put (pw_below_drewN (Below.refl _ _) _) (Nat.le_refl _) _ _) (Nat.le_refl _) _ _).trans b1⟩
    · rw [show prv n most (sc, sc) = upd n most (sc - 1, sc) by simp [prv, k2]]
      go_enter Try.func88, Try.ntmps88
      go_wp2
      go_quiet (fail)
      go_wp2_with (go_at_call 105; refine (HU.out (sc - 1) sc (by omega) (by omega) _ ((hm.drewN _).set 0 _) ((hq.drewN _).other (a := ⟨m, 0, none⟩) (by show q ≠ m; omega) _)).mono ?_; rintro e w1 ⟨rfl, h1, b1⟩)
      go_end0
      exact ⟨rfl, h1, (below_put (pw_below_drewN (Below.refl _ _) _) (Nat.le_refl _) _ _).trans b1⟩
  · rw [show prv n most (sel, sc) = upd n most (sel - 1, sc) by simp [prv, k1]]
    have d1 : (sc == sel) = false := beq_eq_false_iff_ne.2 k1
    go_enter Try.func88, Try.ntmps88
    go_wp2
    go_quiet (fail)
    go_wp2_with (go_at_call 105; refine (HU.out (sel - 1) sc (by omega) (by omega) _ ((hm.drewN _).set 0 _) ((hq.drewN _).other (a := ⟨m, 0, none⟩) (by show q ≠ m; omega) _)).mono ?_; rintro e w1 ⟨rfl, h1, b1⟩)
    go_end0
    exact ⟨rfl, h1, (below_put (pw_below_drewN (Below.refl _ _) _) (Nat.le_refl _) _ _).trans b1⟩

set_option maxHeartbeats 4000000 in
theorem choose_calls (sel sc s : Int) (w : World) (hn : n ≤ 1000) (hmo : 0 ≤ most ∧ most ≤ 65535) (hs : -1 ≤ sel ∧ sel ≤ 1000) (hsc : 0 ≤ sc ∧ sc ≤ 1999) (hm : Rec w m (mgr sel (.slice A n c) most g q sc) 131) (hq : One w q (.slice A n c) 124) :
    Calls Try.prog 59 #[.pointer (some ⟨m, 0, none⟩), .int .u8 s] w fun e w' => e = .returned (.tuple #[]) ∧ Rec w' m (mgr (pick1 n most (sel, sc) s).1 (.slice A n c) most g q (pick1 n most (sel, sc) s).2) 131 ∧ Below m w w' := by
  have HN := Lib.hid (Next_calls m g q n c A most HG hen hqm sel sc w hn hmo hs hsc hm hq)
  have HP := Lib.hid (Previous_calls m g q n c A most HG hen hqm sel sc w hn hmo hs hsc hm hq)
  have HR := Lib.hid (Reset_calls m g q n c A most HG hen hqm sel sc (.slice A n c) w hm hq)
  clear HG hen
  by_cases k1 : s = 1
  · subst k1
    rw [show pick1 n most (sel, sc) 1 = nxt n most (sel, sc) from rfl]
    go_enter Try.func59, Try.ntmps59
    go_wp2_with (go_at_call 87; refine HN.out.mono ?_; rintro e w1 ⟨rfl, h1, b1⟩)
    go_end0
    exact ⟨rfl, h1, b1⟩
  by_cases k2 : s = 2
  · subst k2
    rw [show pick1 n most (sel, sc) 2 = prv n most (sel, sc) from rfl]
    go_enter Try.func59, Try.ntmps59
    go_wp2_with (go_at_call 88; refine HP.out.mono ?_; rintro e w1 ⟨rfl, h1, b1⟩)
    go_end0
    exact ⟨rfl, h1, b1⟩
  by_cases k3 : s = 3
  · subst k3
    rw [show pick1 n most (sel, sc) 3 = (-1, 0) from rfl]
    go_enter Try.func59, Try.ntmps59
    go_wp2_with (go_at_call 86; refine HR.out.mono ?_; rintro e w1 ⟨rfl, h1, b1⟩)
    go_end0
    exact ⟨rfl, h1, b1⟩
  rw [show pick1 n most (sel, sc) s = (sel, sc) by simp [pick1, k1, k2, k3]]
  have d1 : (s == 1) = false := beq_eq_false_iff_ne.2 k1
  have d2 : (s == 2) = false := beq_eq_false_iff_ne.2 k2
  have d3 : (s == 3) = false := beq_eq_false_iff_ne.2 k3
  go_enter Try.func59, Try.ntmps59
  go_wp2
  go_end0
  exact ⟨rfl, hm, Below.refl _ _⟩

omit HG hen hqm in
set_option maxHeartbeats 4000000 in
theorem Place_calls (sel sc : Int) (tmp : Value) (w : World) (hm : Rec w m (mgr sel tmp most g q sc) 131) :
    Calls Try.prog 60 #[.pointer (some ⟨m, 0, none⟩)] w fun e w' => e = .returned (.tuple #[.int .i64 sel, .int .i64 sc]) ∧ Below m w w' := by
  have c0 := hm.cell 0 rfl
  have c4 := hm.cell 4 rfl
  go_enter Try.func60, Try.ntmps60
  go_wp2
  go_quiet (fail)
  go_wp2
  go_ret2
  exact ⟨rfl, pw_below_drewN (Below.refl _ _) _⟩
end
end Go.Proofs.Ythkblefeifdhaaa.H
