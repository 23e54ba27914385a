/- The step over readline's buffer that puts in again what was taken out: what it makes of it; no condition but bounds that its callers meet. -/
import Derived.Test.YtdinikcfhpfojaaDoorQHKill
namespace Go.Proofs.YtdinikcfhpfojaaDoor.H
open Go.RowKit Go.Proofs.YtdinikcfhpfojaaDoorW.PrintWords Go.Proofs.YtdinikcfhpfojaaDoorW.PrintLast Go.Proofs.YtdinikcfhpfojaaDoor.R
set_option linter.unusedVariables false
set_option linter.unusedSimpArgs false
attribute [local go_sem ↓] Go.wp_at_zero Go.wp_at_succ
/-- What holds of a world within the step: the buffer, the box of its pointer, and the row that is being made. -/
def YS (w0 w : World) (B m q : Nat) (r : Rest) (bv kv : Value) (s : KS) (v : Value) (xs : List Int) : Prop :=
  Rec w m (rbc bv s.idx r kv) 89 ∧ Own w B bv s.buf ∧ Own w B kv s.kill ∧ One w q (Pt m) 68 ∧ Fr B (At m) w0 w ∧ Own w B v xs ∧ (∀ k, v.ownBlock = some k → w0.heap.size ≤ k) ∧ m < w0.heap.size ∧ q < w0.heap.size ∧ (∀ k, bv.ownBlock = some k → k < w0.heap.size) ∧ (∀ k, kv.ownBlock = some k → k < w0.heap.size)
theorem YS.drew {w0 w : World} {B m q : Nat} {r : Rest} {bv kv v : Value} {s : KS} {xs : List Int} (h : YS w0 w B m q r bv kv s v xs) : YS w0 w.drew B m q r bv kv s v xs := by
  obtain ⟨h1, h2, h3, h4, h5, h6, h7⟩ := h
  exact ⟨h1.drew, h2.drew, h3.drew, h4.drew, h5.drew, h6.drew, h7⟩
theorem YS.grown {w0 w w1 : World} {B m q : Nat} {r : Rest} {bv kv v v1 : Value} {s : KS} {xs ys : List Int} (h : YS w0 w B m q r bv kv s v xs) (hB : B ≤ w0.heap.size) (hg : w.grownBy w1 v.ownBlock) (ho : Own w1 B v1 ys) (hat : v1.ownBlock = v.ownBlock ∨ v1.ownBlock = some w.heap.size) : YS w0 w1 B m q r bv kv s v1 ys := by
  obtain ⟨h1, h2, h3, h4, h5, h6, h7, hm, hq, hb, hk⟩ := h
  have hne : ∀ k, k < w0.heap.size → some k ≠ v.ownBlock := fun k hk e => by have := h7 k e.symm; omega
  have hsz := h5.1.size
  refine ⟨(hg.block m (by omega) (hne m hm)).trans h1, h2.grown hg (fun k e => hne k (hb k e)), h3.grown hg (fun k e => hne k (hk k e)), (hg.block q (by omega) (hne q hq)).trans h4, Fr.grown h5 hg (fun k e => h6.row k e) (by omega), ho, fun k e => ?_, hm, hq, hb, hk⟩
  rcases hat with e' | e' <;> rw [e'] at e
  · exact h7 k e
  · injection e with e; omega
theorem src_head {w : World} {B : Nat} {A : Option Addr} {c k : Nat} {xs : List Int} (h : Own w B (.slice A xs.length c) xs) (hk : k ≤ xs.length) : Src w A c (xs.take k) := by
  obtain ⟨A', c', e, hlc, hcm, hA⟩ := h.form
  injection e with e1 e2 e3
  subst e1 e3
  rcases hA with ⟨rfl, rfl, rfl⟩ | ⟨g, rfl, hg, hBg, hc⟩
  · exact .inl ⟨rfl, by simp, rfl⟩
  · refine .inr ⟨_, rfl, fun j hj => ?_⟩
    rw [List.length_take] at hj
    rw [show ((⟨g, 0, none⟩ : Addr).add j) = ⟨g, j, none⟩ by unfold Addr.add; split <;> simp_all, hc j (by omega)]
    simp [List.getD, List.getElem?_take, show j < k by omega]
theorem make_run (n : Nat) (hn : n ≤ 2000000000) (w : World) : (Instr.makeSlice 66 (.int .i64 0) (.int .i64 (n : Int))).run Tryd.prog w = .ok (.slice (some ⟨w.heap.size, 0, none⟩) 0 n) (w.alloc (.cells (madeCells #[.int .i32 0] n) 21)) := by
  obtain ⟨i0, hi, hz0, hz1, hz2⟩ := info_parts info21
  have := run_make (P := Tryd.prog) w 66 21 i0 (.int .i32 0) Tryd.underlying66 hi hz0 .i64 .i64 0 (n : Int) (by omega) (by omega) (by rw [hz2]; omega) (by omega)
  simp only [Int.toNat_zero, Int.toNat_natCast, hz1, Nat.mul_one] at this
  exact this
theorem enter149 (args : Array Value) (w : World) : (callFunc 149 args).run Tryd.prog w = .ok (.enter 149 args) w := enters (P := Tryd.prog) Tryd.func149 (by kernel_rfl) rfl args w
set_option maxHeartbeats 8000000 in
theorem yank_closure (q m B : Nat) (s : KS) (r : Rest) (w : World) (ho : One w q (Pt m) 68) (hqm : q ≠ m) (h : RB w B m r s) (hl : s.buf.length + s.kill.length ≤ 500000000) :
    Calls Tryd.prog 149 #[Pt q] w fun e w' => e = .returned (.tuple #[]) ∧ RB w' B m r ⟨s.buf.take s.idx ++ s.kill ++ s.buf.drop s.idx, s.idx + s.kill.length, s.kill⟩ ∧ Fr B (At m) w w' := by
  obtain ⟨bv, kv, hm, hb, hk, hd, hB, hi⟩ := h
  obtain ⟨buf, idx, kill⟩ := s
  dsimp only at *
  obtain ⟨A, c, rfl, hlc, hcm, _⟩ := hb.form
  obtain ⟨Ak, ck, rfl, hlck, hcmk, _⟩ := hk.form
  obtain ⟨N, hN⟩ : ∃ N, buf.length + kill.length = N := ⟨_, rfl⟩
  have hmk := make_run N (by omega)
  have hwr : IntKind.i64.wrap ((buf.length : Int) + (kill.length : Int)) = (N : Int) := by rw [IntWalk.i64_in _ (by omega)]; omega
  have c0 := ho.cell
  have k0 := hm.cell 0 rfl
  have k1 := hm.cell 1 rfl
  have k10 := hm.cell 10 rfl
  unfold maxLen at hcm hcmk
  have hmw := hm.lt
  have hqw := ho.lt
  have hBw : B ≤ w.heap.size := by omega
  have Y0 : YS w (w.alloc (.cells (madeCells #[.int .i32 0] N) 21)).drew B m q r (.slice A buf.length c) (.slice Ak kill.length ck) ⟨buf, idx, kill⟩ (.slice (some ⟨w.heap.size, 0, none⟩) 0 N) [] :=
    ⟨(hm.alloc _).drew, (hb.alloc _).drew, (hk.alloc _).drew, (ho.alloc _).drew, ((Fr.refl _ _ _).alloc hBw _).drew, World.ownsRow_made w _ _ hBw (by unfold maxLen; omega) (by rw [size_madeCells]; omega), fun k e => Nat.le_of_eq (by simpa [Value.ownBlock] using e), hmw, hqw, hb.lt, hk.lt⟩
  have HH := Lib.hid (And.intro hN Y0)
  clear hN Y0
  go_enter Tryd.func149, Tryd.ntmps149
  go_wp2
  go_region_held3 (fun w' => w'.cell? ⟨q, 0, none⟩ = some (Pt m) ∧ w'.cell? ⟨m, 0, none⟩ = some (.slice A buf.length c) ∧ w'.cell? ⟨m, 10, none⟩ = some (.slice Ak kill.length ck)) (first | go_keep) (fail)
  go_wp2
  generalize (w.alloc (.cells (madeCells #[.int .i32 0] N) 21)).drew = W1 at *
  have i0 : (0 : Int) ≤ (idx : Int) := by omega
  have i1 : (idx : Int) ≤ (buf.length : Int) := by omega
  have i2 : (buf.length : Int) ≤ (c : Int) := by omega
  have i3 : (idx : Int) ≤ (c : Int) := by omega
  have j0 := HH.out.2.2.2.2.1.cell
  have j1 := HH.out.2.1.cell 0 rfl
  have j2 := HH.out.2.1.cell 1 rfl
  have hl1 : (buf.take idx).length = idx := by rw [List.length_take]; omega
  have HL := Lib.hid hl1
  have HS1 := Lib.hid (src_head HH.out.2.2.1.drew hi)
  have hz1 : B ≤ W1.drew.heap.size := Nat.le_trans hBw HH.out.2.2.2.2.2.1.1.size
  clear hl1
  go_region_held3 (fun w' => w'.cell? ⟨q, 0, none⟩ = some (Pt m) ∧ w'.cell? ⟨m, 0, none⟩ = some (.slice A buf.length c) ∧ w'.cell? ⟨m, 1, none⟩ = some (.int .i64 idx)) (first | go_keep | (exact ⟨Y2.2.2.2.1.cell, Y2.1.cell 0 rfl, Y2.1.cell 1 rfl⟩))
    ((refine step_append_ints rfl (.tmp 14) (.tmp 23) rfl B _ [] (by rfl) HH.out.2.drew.2.2.2.2.2.1 A idx c (buf.take idx) HL.out.symm (by rfl) HS1.out (by rw [HL.out]; simp; omega) hz1 idx (by rw [HL.out]; simp) ?_; intro A2 c2 w2 ho2 hg2 hat2; have Y2 := HH.out.2.drew.grown hBw hg2 ho2 hat2))
  have Y2H := Lib.hid Y2
  have u0 := Y2.2.2.2.1.cell
  have u1 := Y2.1.cell 0 rfl
  have u2 := Y2.1.cell 1 rfl
  have u3 := Y2.1.cell 10 rfl
  have hS2 : Src w2 Ak ck kill := by
    obtain ⟨A', c', e, _, _, hA'⟩ := Y2.2.2.1.form
    injection e with e1 e2 e3
    subst e1 e3
    rcases hA' with ⟨rfl, e, rfl⟩ | ⟨g, rfl, hg, hBg, hc⟩
    · exact .inl ⟨rfl, e, rfl⟩
    · exact .inr ⟨_, rfl, fun j hj => by rw [show ((⟨g, 0, none⟩ : Addr).add j) = ⟨g, j, none⟩ by unfold Addr.add; split <;> simp_all]; exact hc j hj⟩
  have HS2 := Lib.hid hS2
  have hz2 : B ≤ w2.heap.size := Nat.le_trans hBw Y2.2.2.2.2.1.1.size
  clear hS2 Y2 ho2 hg2 hat2 j0 j1 j2 hz1 c0 k0 k1 k10
  go_wp2_with (at_builtin; refine wpList_append_ints rfl (.tmp 25) (.tmp 29) rfl B (.slice A2 idx c2) ([] ++ buf.take idx) rfl Y2H.out.2.2.2.2.2.1 Ak kill.length ck kill rfl rfl HS2.out (by simp; omega) hz2 (idx + kill.length) (by simp [HL.out]) ?_; intro A3 c3 w3 ho3 hg3 hat3; have Y3 := Y2H.out.grown hBw hg3 ho3 hat3)
  have Y3H := Lib.hid Y3
  have v0 := Y3.2.2.2.1.cell
  have v1 := Y3.1.cell 0 rfl
  have v2 := Y3.1.cell 1 rfl
  have HS3 := Lib.hid (src_tail Y3.2.1.drew hi)
  have hz3 : B ≤ w3.drew.heap.size := Nat.le_trans hBw Y3.2.2.2.2.1.1.size
  obtain ⟨T, hT⟩ : ∃ T, (if c = idx then A else Option.map (fun x => x.add idx) A) = T := ⟨_, rfl⟩
  have HS3' : Hid (Src w3.drew T (c - idx) (buf.drop idx)) := by rw [← hT]; exact HS3
  have HD := Lib.hid (show (buf.drop idx).length = buf.length - idx by rw [List.length_drop])
  clear Y3 ho3 hg3 hat3 u0 u1 u2 u3 hz2 HS3
  go_region_held3 (fun w' => w'.cell? ⟨q, 0, none⟩ = some (Pt m) ∧ w'.cell? ⟨m, 0, none⟩ = some (.slice A buf.length c) ∧ w'.cell? ⟨m, 1, none⟩ = some (.int .i64 idx)) (first | go_keep | (exact ⟨Y4.2.2.2.1.cell, Y4.1.cell 0 rfl, Y4.1.cell 1 rfl⟩))
    ((refine step_append_ints rfl (.tmp 31) (.tmp 40) rfl B _ ([] ++ buf.take idx ++ kill) (by rfl) Y3H.out.drew.2.2.2.2.2.1 T (buf.length - idx) (c - idx) (buf.drop idx) HD.out.symm (by rfl) HS3'.out (by simp; omega) hz3 (idx + kill.length + (buf.length - idx)) (by simp [HL.out]) ?_; intro A4 c4 w4 ho4 hg4 hat4; have Y4 := Y3H.out.drew.grown hBw hg4 ho4 hat4))
  have Y4H := Lib.hid Y4
  have x0 := Y4.2.2.2.1.cell
  have x1 := Y4.1.cell 0 rfl
  have zx := Y4.1.free 0
  clear Y4 ho4 hg4 hat4 v0 v1 v2 hz3
  have hm5 := Y4H.out.1.set 0 (.slice A4 (idx + kill.length + (buf.length - idx)) c4)
  have ho5 : One (w4.setCell ⟨m, 0, none⟩ (.slice A4 (idx + kill.length + (buf.length - idx)) c4)) q (Pt m) 68 := Y4H.out.2.2.2.1.other (a := ⟨m, 0, none⟩) (by show q ≠ m; exact hqm) _
  have hr5 := Y4H.out.2.2.2.2.2.1.set Y4H.out.1 (by decide) 0 (.slice A4 (idx + kill.length + (buf.length - idx)) c4)
  have hk5 := Y4H.out.2.2.1.set Y4H.out.1 (by decide) 0 (.slice A4 (idx + kill.length + (buf.length - idx)) c4)
  have hF5 := fr_at Y4H.out.2.2.2.2.1 hB 0 (.slice A4 (idx + kill.length + (buf.length - idx)) c4)
  have HR5 := Lib.hid (And.intro hr5 (And.intro hk5 hF5))
  have H7 := Lib.hid Y4H.out.2.2.2.2.2.2.1
  clear hr5 hk5 hF5
  go_wp2
  generalize w4.setCell ⟨m, 0, none⟩ (.slice A4 (idx + kill.length + (buf.length - idx)) c4) = W5 at *
  have q0 := ho5.cell
  have q1 := hm5.cell 1 rfl
  have q2 := hm5.cell 10 rfl
  have q3 := hm5.free 1
  clear x0 x1 zx
  go_region
  go_end0
  have hm6 := (hm5.set 1 (.int .i64 ((idx : Int) + (kill.length : Int)))).drew
  have hr6 := (HR5.out.1.set hm5 (by decide) 1 (.int .i64 ((idx : Int) + (kill.length : Int)))).drew
  have hk6 := (HR5.out.2.1.set hm5 (by decide) 1 (.int .i64 ((idx : Int) + (kill.length : Int)))).drew
  have hF6 := (fr_at HR5.out.2.2 hB 1 (.int .i64 ((idx : Int) + (kill.length : Int)))).drew
  have hkl := hk.lt
  exact ⟨rfl, ⟨_, _, hm6, by simpa using hr6, hk6, fun k e1 e2 => by have := H7.out k e1; have := hkl k e2; omega, hB, by simp; omega⟩, hF6⟩
def kyank (s : KS) : KS := if s.kill.length = 0 then s else ⟨s.buf.take s.idx ++ s.kill ++ s.buf.drop s.idx, s.idx + s.kill.length, s.kill⟩
set_option maxHeartbeats 2000000 in
theorem yank_calls (m B : Nat) (s : KS) (r : Rest) (w : World) (h : RB w B m r s) (hl : s.buf.length + s.kill.length ≤ 500000000) :
    Calls Tryd.prog 116 #[Pt m] w fun e w' => e = .returned (.tuple #[]) ∧ RB w' B m r (kyank s) ∧ Fr B (At m) w w' := by
  have ho := One.new w (Pt m) 68
  have hB := h.lt
  have h1 := h.alloc (.cells #[Pt m] 68)
  have HN := Lib.hid (And.intro h (Fr.of_below (X := At m) ((Below.refl w.heap.size w).alloc (Nat.le_refl _) (.cells #[Pt m] 68)) (by omega : B ≤ w.heap.size)))
  have HC := Lib.hid (Refresh_calls 149 #[Pt w.heap.size] (Pt m) _ _ enter149 (yank_closure w.heap.size m B s r _ ho (by omega) h1 hl))
  have HR := Lib.hid h1
  obtain ⟨bv, kv, hm, hb, hk, hd, _, hi⟩ := h1
  obtain ⟨Ak, ck, rfl, hlck, hcmk, _⟩ := hk.form
  have k10 := hm.cell 10 rfl
  have c0 := ho.cell
  have hmf := made_f
  by_cases hz : s.kill.length = 0
  · rw [show kyank s = s by unfold kyank; rw [if_pos hz]]
    rw [hz] at k10
    clear ho h hm hb hk hz HC
    go_enter Tryd.func116, Tryd.ntmps116
    go_wp2
    refine bodyPost_ret (results_none rfl _ _ _) rfl ?_
    exact ⟨rfl, HR.out, HN.out.2⟩
  · rw [show kyank s = ⟨s.buf.take s.idx ++ s.kill ++ s.buf.drop s.idx, s.idx + s.kill.length, s.kill⟩ by unfold kyank; rw [if_neg hz]]
    have hne : ((s.kill.length : Int) == 0) = false := beq_eq_false_iff_ne.2 (by omega)
    clear ho h hm hb hk hz
    go_enter Tryd.func116, Tryd.ntmps116
    go_wp2_with (go_at_call 60; refine HC.out.mono ?_; rintro e w1 ⟨rfl, hR, hF⟩)
    go_end0
    exact ⟨rfl, hR, Fr.narrow ((Below.refl _ _).alloc (Nat.le_refl _) _) hF (by omega) (fun _ _ h => h)⟩
end Go.Proofs.YtdinikcfhpfojaaDoor.H
