/- The step over readline's buffer to a sign: what it makes of it; no condition but bounds that its callers meet. -/
import Derived.Test.YtdinikcfhpfojaaDoorQHWordK
namespace Go.Proofs.YtdinikcfhpfojaaDoor.H
open Go.RowKit Go.Proofs.YtdinikcfhpfojaaDoorW.PrintWords Go.Proofs.YtdinikcfhpfojaaDoorW.PrintLast Go.Proofs.YtdinikcfhpfojaaDoor.R
set_option linter.unusedVariables false
set_option linter.unusedSimpArgs false
attribute [local go_sem ↓] Go.wp_at_zero Go.wp_at_succ
theorem enter107 (args : Array Value) (w : World) : (callFunc 107 args).run Tryd.prog w = .ok (.enter 107 args) w := enters (P := Tryd.prog) Tryd.func107 (by kernel_rfl) rfl args w
/-- What the step leaves. -/
def MvPost (B m p : Nat) (r : Rest) (w : World) (x : KS × Int) (w' : World) : Prop := RB w' B m r x.1 ∧ One w' p (.bool (decide (x.2 = 1))) 4 ∧ Fr B (fun k => k = m ∨ k = p) w w'
set_option maxHeartbeats 4000000 in
theorem moveto_closure (a q e d p m B : Nat) (s : KS) (r : Rest) (ch : Int) (flag back : Bool) (w : World) (ha : One w a (.bool back) 4) (ho : One w q (Pt m) 68) (he : One w e (.int .i32 ch) 21) (hd : One w d (.bool flag) 4) (hs : One w p (.bool false) 4) (hpm : p ≠ m) (hdm : d ≠ m) (hqm : q ≠ m) (hBp : B ≤ p) (h : RB w B m r s) (hl : s.buf.length ≤ 1000000000) :
    Calls Tryd.prog 107 #[Pt a, Pt q, Pt e, Pt d, Pt p] w fun en w' => en = .returned (.tuple #[]) ∧ MvPost B m p r w (kmove s ch flag back) w' := by
  obtain ⟨bv, kv, hm, hb, hk, hdd, hB, hi⟩ := h
  obtain ⟨buf, idx, kill⟩ := s
  dsimp only at *
  obtain ⟨A, c, rfl, hlc, hcm, hA⟩ := hb.form
  have ca := ha.cell
  have c0 := ho.cell
  have ce := he.cell
  have cd := hd.cell
  have cs := hs.cell
  have zs := hs.free
  have k0 := hm.cell 0 rfl
  have k1 := hm.cell 1 rfl
  have z1 := hm.free 1
  have HC := Lib.hid (show ∀ j, j < buf.length → ∃ g, A = some ⟨g, 0, none⟩ ∧ w.cell? ⟨g, j, none⟩ = some (.int .i32 (buf.getD j 0)) from fun j hj => by
    rcases hA with ⟨_, h0, _⟩ | ⟨g, rfl, hg, hBg, hcell⟩
    · subst h0; simp at hj
    · exact ⟨g, rfl, hcell j hj⟩)
  have HF : ∀ (n j : Nat), j ≤ buf.length → ∀ W, W = ((w.drewN n).setCell ⟨m, 1, none⟩ (.int .i64 j)).setCell ⟨p, 0, none⟩ (.bool true) → RB W B m r ⟨buf, j, kill⟩ ∧ One W p (.bool true) 4 ∧ Fr B (fun k => k = m ∨ k = p) w W := by
    rintro n j hj W rfl
    have h1 : One ((w.drewN n).setCell ⟨m, 1, none⟩ (.int .i64 j)) p (.bool false) 4 := (hs.drewN n).other (a := ⟨m, 1, none⟩) (by show p ≠ m; exact hpm) _
    exact ⟨(rb_idx hm hb hk hdd hB hj n).one h1 (by decide) hpm, h1.set _, (((Fr.refl _ _ _).drewN n).set (.inl (.inl rfl)) hB _ _).set (.inl (.inr rfl)) hBp _ _⟩
  have HF2 : ∀ (n j : Nat) (u : Value), j ≤ buf.length → ∀ W, W = (((w.drewN n).setCell ⟨m, 1, none⟩ u).setCell ⟨m, 1, none⟩ (.int .i64 j)).setCell ⟨p, 0, none⟩ (.bool true) → RB W B m r ⟨buf, j, kill⟩ ∧ One W p (.bool true) 4 ∧ Fr B (fun k => k = m ∨ k = p) w W := by
    rintro n j u hj W rfl
    have h1 : One (((w.drewN n).setCell ⟨m, 1, none⟩ u).setCell ⟨m, 1, none⟩ (.int .i64 j)) p (.bool false) 4 := ((hs.drewN n).other (a := ⟨m, 1, none⟩) (by show p ≠ m; exact hpm) _).other (a := ⟨m, 1, none⟩) (by show p ≠ m; exact hpm) _
    have h2 : RB (((w.drewN n).setCell ⟨m, 1, none⟩ u).setCell ⟨m, 1, none⟩ (.int .i64 j)) B m r ⟨buf, j, kill⟩ := ⟨_, kv, ((hm.drewN n).set 1 u).set 1 (.int .i64 j), ((hb.drewN n).set (hm.drewN n) (by decide) 1 u).set ((hm.drewN n).set 1 u) (by decide) 1 _, ((hk.drewN n).set (hm.drewN n) (by decide) 1 u).set ((hm.drewN n).set 1 u) (by decide) 1 _, hdd, hB, hj⟩
    exact ⟨h2.one h1 (by decide) hpm, h1.set _, ((((Fr.refl _ _ _).drewN n).set (.inl (.inl rfl)) hB _ _).set (.inl (.inl rfl)) hB _ _).set (.inl (.inr rfl)) hBp _ _⟩
  have HN : ∀ n : Nat, RB (w.drewN n) B m r ⟨buf, idx, kill⟩ ∧ One (w.drewN n) p (.bool false) 4 ∧ Fr B (fun k => k = m ∨ k = p) w (w.drewN n) := fun n => ⟨⟨_, _, hm.drewN _, hb.drewN _, hk.drewN _, hdd, hB, hi⟩, hs.drewN _, (Fr.refl _ _ _).drewN _⟩
  have HW := Lib.hid HF
  have HW2 := Lib.hid HF2
  have HN := Lib.hid HN
  have yp : ∀ (W : World) (u : Value), (W.setCell ⟨m, 1, none⟩ u).cell? ⟨p, 0, none⟩ = W.cell? ⟨p, 0, none⟩ := fun W u => World.cell?_setCell_other W _ _ u (fun h => hpm (by first | exact congrArg Addr.block h | exact (congrArg Addr.block h).symm))
  have yd : ∀ (W : World) (u : Value), (W.setCell ⟨m, 1, none⟩ u).cell? ⟨d, 0, none⟩ = W.cell? ⟨d, 0, none⟩ := fun W u => World.cell?_setCell_other W _ _ u (fun h => hdm (by first | exact congrArg Addr.block h | exact (congrArg Addr.block h).symm))
  have yq : ∀ (W : World) (u : Value), (W.setCell ⟨m, 1, none⟩ u).cell? ⟨q, 0, none⟩ = W.cell? ⟨q, 0, none⟩ := fun W u => World.cell?_setCell_other W _ _ u (fun h => hqm (by first | exact congrArg Addr.block h | exact (congrArg Addr.block h).symm))
  clear hA HF HF2
  cases back
  · have HK := Lib.hid (show kmove ⟨buf, idx, kill⟩ ch flag false = (match findF buf ch (buf.length - (idx + 1)) (idx + 1) with | some i => (⟨buf, if flag then i - 1 else i, kill⟩, 1) | none => (⟨buf, idx, kill⟩, 0)) from rfl)
    generalize hR : findF buf ch (buf.length - (idx + 1)) (idx + 1) = R at HK
    have HRR := Lib.hid hR
    generalize kmove ⟨buf, idx, kill⟩ ch flag false = X at *
    clear hR
    go_enter Tryd.func107, Tryd.ntmps107
    go_wp2
    go_loopw [6] (fun vi wr => ∃ k n : Nat, idx + 1 ≤ k ∧ k ≤ buf.length + 1 ∧ vi = .int .i64 (k : Int) ∧ findF buf ch (buf.length - k) k = R ∧ wr = w.drewN n) (fun vi _ => buf.length - (intOf vi).toNat)
    case atStart => exact ⟨idx + 1, 0, by omega, by omega, by first | rfl | go_num, HRR.out, rfl⟩
    case round =>
      obtain ⟨k, n, hk0, hk1, rfl, hp, rfl⟩ := hrel
      have HP := Lib.hid hp
      clear hp
      by_cases hlt : k < buf.length
      · obtain ⟨j, rfl⟩ : ∃ j, k = j + 1 := ⟨k - 1, by omega⟩
        obtain ⟨g, rfl, e1⟩ := HC.out (j + 1) hlt
        have HS := Lib.hid (show findF buf ch (buf.length - (j + 1)) (j + 1) = if buf.getD (j + 1) 0 = ch then some (j + 1) else findF buf ch (buf.length - (j + 1 + 1)) (j + 1 + 1) by
          rw [show buf.length - (j + 1) = buf.length - (j + 1 + 1) + 1 by omega]; rfl)
        by_cases hx : buf.getD (j + 1) 0 = ch
        · have HX := Lib.hid (show R = some (j + 1) by rw [← HP.out, HS.out, if_pos hx])
          subst hx
          generalize buf.getD (j + 1) 0 = x at *
          cases flag
          · go_wp2
            go_quiet (fail)
            go_wp2
            refine bodyPost_ret (results_none rfl _ _ _) rfl ?_
            rw [HK.out, HX.out]
            exact ⟨rfl, HW.out _ (j + 1) (by omega) _ rfl⟩
          · go_wp2
            go_quiet (fail)
            go_wp2
            refine bodyPost_ret (results_none rfl _ _ _) rfl ?_
            rw [HK.out, HX.out]
            exact ⟨rfl, HW2.out _ j _ (by omega) _ rfl⟩
        · have HX := Lib.hid hx
          have hxb : (buf.getD (j + 1) 0 == ch) = false := beq_eq_false_iff_ne.2 hx
          clear hx
          generalize buf.getD (j + 1) 0 = x at *
          go_wp2
          go_quiet (fail)
          go_wp2
          go_roundw
          case rel => exact ⟨j + 1 + 1, _, by omega, by omega, by go_num, by rw [← HP.out, HS.out, if_neg HX.out], rfl⟩
          case measure => simp [intOf]; omega
      · have HE := Lib.hid (HP.out.symm.trans (show findF buf ch (buf.length - k) k = none by rw [show buf.length - k = 0 by omega]; rfl))
        go_wp2
        go_end0
        rw [HK.out, HE.out]
        exact ⟨rfl, HN.out _⟩
  · have HK := Lib.hid (show kmove ⟨buf, idx, kill⟩ ch flag true = (match findB buf ch idx with | some i => (⟨buf, if flag then i + 1 else i, kill⟩, 1) | none => (⟨buf, idx, kill⟩, 0)) from rfl)
    generalize hR : findB buf ch idx = R at HK
    have HRR := Lib.hid hR
    generalize kmove ⟨buf, idx, kill⟩ ch flag true = X at *
    clear hR
    go_enter Tryd.func107, Tryd.ntmps107
    go_wp2
    go_loopw [5] (fun vi wr => ∃ k n : Nat, k ≤ idx ∧ vi = .int .i64 ((k : Int) - 1) ∧ findB buf ch k = R ∧ wr = w.drewN n) (fun vi _ => (intOf vi + 1).toNat)
    case atStart => exact ⟨idx, 0, by omega, by first | rfl | go_num, HRR.out, rfl⟩
    case round =>
      obtain ⟨k, n, hk0, rfl, hp, rfl⟩ := hrel
      have HP := Lib.hid hp
      clear hp
      cases k with
      | zero =>
        go_wp2
        refine bodyPost_ret (results_none rfl _ _ _) rfl ?_
        rw [HK.out, ← HP.out]
        exact ⟨rfl, HN.out _⟩
      | succ j =>
        obtain ⟨g, rfl, e1⟩ := HC.out j (by omega)
        have HS := Lib.hid (show findB buf ch (j + 1) = if buf.getD j 0 = ch then some j else findB buf ch j from rfl)
        by_cases hx : buf.getD j 0 = ch
        · have HX := Lib.hid (show R = some j by rw [← HP.out, HS.out, if_pos hx])
          subst hx
          generalize buf.getD j 0 = x at *
          cases flag
          · go_wp2
            go_quiet (fail)
            go_wp2
            refine bodyPost_ret (results_none rfl _ _ _) rfl ?_
            rw [HK.out, HX.out]
            exact ⟨rfl, HW.out _ j (by omega) _ rfl⟩
          · go_wp2
            go_quiet (fail)
            go_wp2
            refine bodyPost_ret (results_none rfl _ _ _) rfl ?_
            rw [HK.out, HX.out]
            exact ⟨rfl, HW2.out _ (j + 1) _ (by omega) _ rfl⟩
        · have HX := Lib.hid hx
          have hxb : (buf.getD j 0 == ch) = false := beq_eq_false_iff_ne.2 hx
          clear hx
          generalize buf.getD j 0 = x at *
          go_wp2
          go_quiet (fail)
          go_wp2
          go_roundw
          case rel => exact ⟨j, _, by omega, by go_num, by rw [← HP.out, HS.out, if_neg HX.out], rfl⟩
          case measure => simp [intOf]
set_option maxHeartbeats 2000000 in
theorem moveto_calls (m B : Nat) (s : KS) (r : Rest) (ch : Int) (flag back : Bool) (w : World) (h : RB w B m r s) (hl : s.buf.length ≤ 1000000000) :
    Calls Tryd.prog 73 #[Pt m, .int .i32 ch, .bool flag, .bool back] w fun e w' => e = .returned (.bool (decide ((kmove s ch flag back).2 = 1))) ∧ RB w' B m r (kmove s ch flag back).1 ∧ Fr B (At m) w w' := by
  have b0 : Below w.heap.size w ((((w.alloc (.cells #[Pt m] 68)).alloc (.cells #[.int .i32 ch] 21)).alloc (.cells #[.bool flag] 4)).alloc (.cells #[.bool back] 4)) := ((((Below.refl _ _).alloc (Nat.le_refl _) _).alloc (by simp) _).alloc (by simp; omega) _).alloc (by simp; omega) _
  have b1 : Below w.heap.size w (((((w.alloc (.cells #[Pt m] 68)).alloc (.cells #[.int .i32 ch] 21)).alloc (.cells #[.bool flag] 4)).alloc (.cells #[.bool back] 4)).alloc (.cells #[.bool false] 4)) := b0.alloc (by simp; omega) _
  have o0 := ((((One.new w (Pt m) 68).alloc (.cells #[.int .i32 ch] 21)).alloc (.cells #[.bool flag] 4)).alloc (.cells #[.bool back] 4)).alloc (.cells #[.bool false] 4)
  have o1 := (((One.at_ (b := w.heap.size + 1) (w.alloc (.cells #[Pt m] 68)) (.int .i32 ch) 21 (by simp)).alloc (.cells #[.bool flag] 4)).alloc (.cells #[.bool back] 4)).alloc (.cells #[.bool false] 4)
  have o2 := ((One.at_ (b := w.heap.size + 2) ((w.alloc (.cells #[Pt m] 68)).alloc (.cells #[.int .i32 ch] 21)) (.bool flag) 4 (by simp)).alloc (.cells #[.bool back] 4)).alloc (.cells #[.bool false] 4)
  have o3 := (One.at_ (b := w.heap.size + 3) (((w.alloc (.cells #[Pt m] 68)).alloc (.cells #[.int .i32 ch] 21)).alloc (.cells #[.bool flag] 4)) (.bool back) 4 (by simp)).alloc (.cells #[.bool false] 4)
  have o4 := One.at_ (b := w.heap.size + 4) ((((w.alloc (.cells #[Pt m] 68)).alloc (.cells #[.int .i32 ch] 21)).alloc (.cells #[.bool flag] 4)).alloc (.cells #[.bool back] 4)) (.bool false) 4 (by simp)
  have hB := h.lt
  have HC := Lib.hid (Refresh_calls 107 #[Pt (w.heap.size + 3), Pt w.heap.size, Pt (w.heap.size + 1), Pt (w.heap.size + 2), Pt (w.heap.size + 4)] (Pt m) _ _ enter107 (moveto_closure (w.heap.size + 3) w.heap.size (w.heap.size + 1) (w.heap.size + 2) (w.heap.size + 4) m B s r ch flag back _ o3 o0 o1 o2 o4 (by omega) (by omega) (by omega) (by omega) (h.below b1) hl))
  have c0 := o0.cell
  have hmf := made_f
  generalize kmove s ch flag back = X at *
  clear o0 o1 o2 o3 o4 h b0
  go_enter Tryd.func73, Tryd.ntmps73
  go_wp2_with (go_at_call 60; refine HC.out.mono ?_; rintro e w1 ⟨rfl, hR, hO, hF⟩)
  have hc := hO.cell
  exact bodyPost_ret (v := .bool (decide (X.2 = 1))) (by simp [results, Tryd.results73, go_sem, hc]) rfl ⟨rfl, hR, Fr.narrow b1 hF (by omega) (fun k hk h => h.elim (fun e => e) (fun e => by omega))⟩
end Go.Proofs.YtdinikcfhpfojaaDoor.H
