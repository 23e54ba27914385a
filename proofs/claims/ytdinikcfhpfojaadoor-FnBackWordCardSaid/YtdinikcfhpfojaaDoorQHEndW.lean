/- The step over readline's buffer to a word's last sign: what it makes of it; no condition but bounds that its callers meet. -/
import Derived.Test.YtdinikcfhpfojaaDoorQHWordK
namespace Go.Proofs.YtdinikcfhpfojaaDoor.H
open Go.RowKit Go.Proofs.YtdinikcfhpfojaaDoorW.PrintWords Go.Proofs.YtdinikcfhpfojaaDoorW.PrintLast Go.Proofs.YtdinikcfhpfojaaDoor.R
set_option linter.unusedVariables false
set_option linter.unusedSimpArgs false
attribute [local go_sem ↓] Go.wp_at_zero Go.wp_at_succ
theorem enter144 (args : Array Value) (w : World) : (callFunc 144 args).run Tryd.prog w = .ok (.enter 144 args) w := enters (P := Tryd.prog) Tryd.func144 (by kernel_rfl) rfl args w
def endN (buf : List Int) (idx : Nat) : Nat := if wsign (buf.getD idx 0) then (if wsign (buf.getD (idx + 1) 0) then endW buf (buf.length - (idx + 1)) (idx + 1) else endW buf (buf.length - (idx + 2)) (idx + 2)) else endW buf (buf.length - (idx + 1)) (idx + 1)
def kendw (s : KS) : KS := if s.idx = s.buf.length then s else { s with idx := endN s.buf s.idx }
theorem wbsT (c : Int) (w : World) (h : wsign c = true) : Calls Tryd.prog 142 #[.int .i32 c] w fun e w' => e = .returned (.bool false) ∧ w' = w := (wb_calls c w).mono fun _ _ k => ⟨by rw [k.1, h]; rfl, k.2.symm⟩
theorem wbsF (c : Int) (w : World) (h : wsign c = false) : Calls Tryd.prog 142 #[.int .i32 c] w fun e w' => e = .returned (.bool true) ∧ w' = w := (wb_calls c w).mono fun _ _ k => ⟨by rw [k.1, h]; rfl, k.2.symm⟩
theorem wbqT (c : Int) (w : World) (a n : Nat) (h : wsign c = true) : Calls Tryd.prog 142 #[.int .i32 c] (w.drewN (a + n)) fun e w'' => e = .returned (.bool false) ∧ ∃ m, w'' = w.drewN (a + m) := (wbsT c _ h).mono fun _ _ k => ⟨k.1, n, k.2⟩
theorem wbqF (c : Int) (w : World) (a n : Nat) (h : wsign c = false) : Calls Tryd.prog 142 #[.int .i32 c] (w.drewN (a + n)) fun e w'' => e = .returned (.bool true) ∧ ∃ m, w'' = w.drewN (a + m) := (wbsF c _ h).mono fun _ _ k => ⟨k.1, n, k.2⟩
set_option maxHeartbeats 4000000 in
theorem endw_closure (q m B : Nat) (s : KS) (r : Rest) (w : World) (ho : One w q (Pt m) 68) (hqm : q ≠ m) (h : RB w B m r s) (hl : s.buf.length ≤ 1000000000) (hok : s.idx < s.buf.length → wsign (s.buf.getD s.idx 0) = true → s.idx + 1 < s.buf.length) :
    Calls Tryd.prog 144 #[Pt q] w fun e w' => e = .returned (.tuple #[]) ∧ RB w' B m r (kendw s) ∧ Fr B (At m) w w' := by
  obtain ⟨bv, kv, hm, hb, hk, hd, hB, hi⟩ := h
  obtain ⟨buf, idx, kill⟩ := s
  dsimp only at *
  obtain ⟨A, c, rfl, hlc, hcm, hA⟩ := hb.form
  by_cases he : idx = buf.length
  · rw [show kendw ⟨buf, idx, kill⟩ = ⟨buf, idx, kill⟩ by simp [kendw, he]]
    subst he
    have c0 := ho.cell
    have k0 := hm.cell 0 rfl
    have k1 := hm.cell 1 rfl
    clear hA
    go_enter Tryd.func144, Tryd.ntmps144
    go_wp2
    go_quiet (fail)
    go_wp2
    refine bodyPost_ret (results_none rfl _ _ _) rfl ?_
    exact ⟨rfl, ⟨_, _, hm.drewN _, hb.drewN _, hk.drewN _, hd, hB, hi⟩, (Fr.refl _ _ _).drewN _⟩
  · rw [show kendw ⟨buf, idx, kill⟩ = ⟨buf, endN buf idx, kill⟩ by simp [kendw, he]]
    rcases hA with ⟨_, h0, _⟩ | ⟨g, rfl, hg, hBg, hcell⟩
    · subst h0; simp at hi he; omega
    have hlt : idx < buf.length := by omega
    have hok' := hok hlt
    have HC := Lib.hid hcell
    have hgm : g ≠ m := hg.ne_rec hm (by decide)
    have hne : (idx == buf.length) = false := beq_eq_false_iff_ne.2 he
    have hne2 : ((idx : Int) == (buf.length : Int)) = false := beq_eq_false_iff_ne.2 (by omega)
    have ei := hcell idx hlt
    have HI := Lib.hid hi
    have HW := Lib.hid (show ∀ (n j : Nat), j ≤ buf.length → ∀ W, W = (w.drewN n).setCell ⟨m, 1, none⟩ (.int .i64 j) → RB W B m r ⟨buf, j, kill⟩ ∧ Fr B (At m) w W from by
      rintro n j hj W rfl
      exact ⟨rb_idx hm hb hk hd hB hj n, fr_idx n hB _ _⟩)
    have HW2 := Lib.hid (show ∀ (n n' j : Nat) (u : Value), j ≤ buf.length → ∀ W, W = (((w.drewN n).setCell ⟨m, 1, none⟩ u).drewN n').setCell ⟨m, 1, none⟩ (.int .i64 j) → RB W B m r ⟨buf, j, kill⟩ ∧ Fr B (At m) w W from by
      rintro n n' j u hj W rfl
      exact ⟨⟨_, kv, (((hm.drewN n).set 1 u).drewN n').set 1 (.int .i64 j), (((hb.drewN n).set (hm.drewN n) (by decide) 1 u).drewN n').set (((hm.drewN n).set 1 u).drewN n') (by decide) 1 _, (((hk.drewN n).set (hm.drewN n) (by decide) 1 u).drewN n').set (((hm.drewN n).set 1 u).drewN n') (by decide) 1 _, hd, hB, hj⟩, fr_at ((fr_idx n hB 1 u).drewN n') hB _ _⟩)
    clear hcell hok he
    have c0 := ho.cell
    have k0 := hm.cell 0 rfl
    have k1 := hm.cell 1 rfl
    have z1 := hm.free 1
    cases h1 : wsign (buf.getD idx 0)
    · have HN := Lib.hid (show endN buf idx = endW buf (buf.length - (idx + 1)) (idx + 1) by unfold endN; rw [h1]; rfl)
      generalize endN buf idx = N at *
      generalize buf.getD idx 0 = xi at *
      clear hok'
      go_enter Tryd.func144, Tryd.ntmps144
      go_wp2
      go_quiet (fail)
      go_wp2
      go_quiet ((go_at_call 142; first | exact wbqT _ _ _ _ (by assumption) | exact wbqF _ _ _ _ (by assumption) | exact Calls.quiet_of_same (wbsT _ _ (by assumption)) | exact Calls.quiet_of_same (wbsF _ _ (by assumption))))
      go_wp2
      go_loop [1] (fun vi => ∃ k : Nat, idx + 1 ≤ k ∧ k ≤ buf.length + 1 ∧ vi = .int .i64 k ∧ endW buf (buf.length - k) k = N) (fun vi => buf.length - (intOf vi).toNat)
      case atStart => exact ⟨idx + 1, by omega, by omega, by first | rfl | go_num, HN.out.symm⟩
      case round =>
        obtain ⟨k, hk0, hk1, rfl, hp⟩ := hrel
        have HP := Lib.hid hp
        clear hp
        by_cases hlt2 : k < buf.length
        · obtain ⟨j, rfl⟩ : ∃ j, k = j + 1 := ⟨k - 1, by omega⟩
          have e1 := HC.out (j + 1) hlt2
          have e0 := HC.out j (by omega)
          have HS := Lib.hid (show endW buf (buf.length - (j + 1)) (j + 1) = if wsign (buf.getD j 0) && !wsign (buf.getD (j + 1) 0) then j else endW buf (buf.length - (j + 1 + 1)) (j + 1 + 1) by
            rw [show buf.length - (j + 1) = buf.length - (j + 1 + 1) + 1 by omega]; rfl)
          cases g1 : wsign (buf.getD (j + 1) 0)
          · cases g0 : wsign (buf.getD j 0)
            · have HB := Lib.hid (show (wsign (buf.getD j 0) && !wsign (buf.getD (j + 1) 0)) = false by rw [g0]; rfl)
              generalize buf.getD (j + 1) 0 = x1 at *
              generalize buf.getD j 0 = x0 at *
              go_wp2_with (go_at_call 142; refine (wb_calls _ _).mono ?_; rintro e w' ⟨rfl, rfl⟩)
              go_round
              case rel => exact ⟨j + 1 + 1, by omega, by omega, by go_num, by rw [← HP.out, HS.out, HB.out]; rfl⟩
              case measure => simp [intOf]; omega
            · have HB := Lib.hid (show (wsign (buf.getD j 0) && !wsign (buf.getD (j + 1) 0)) = true by rw [g0, g1]; rfl)
              generalize buf.getD (j + 1) 0 = x1 at *
              generalize buf.getD j 0 = x0 at *
              go_wp2_with (go_at_call 142; refine (wb_calls _ _).mono ?_; rintro e w' ⟨rfl, rfl⟩)
              refine bodyPost_ret (results_none rfl _ _ _) rfl ?_
              rw [← HP.out, HS.out, HB.out]
              exact ⟨rfl, HW.out _ j (by omega) _ rfl⟩
          · have HB := Lib.hid (show (wsign (buf.getD j 0) && !wsign (buf.getD (j + 1) 0)) = false by rw [g1]; simp)
            generalize buf.getD (j + 1) 0 = x1 at *
            generalize buf.getD j 0 = x0 at *
            go_wp2_with (go_at_call 142; refine (wb_calls _ _).mono ?_; rintro e w' ⟨rfl, rfl⟩)
            go_round
            case rel => exact ⟨j + 1 + 1, by omega, by omega, by go_num, by rw [← HP.out, HS.out, HB.out]; rfl⟩
            case measure => simp [intOf]; omega
        · have HE := Lib.hid (HP.out.symm.trans (show endW buf (buf.length - k) k = buf.length by rw [show buf.length - k = 0 by omega]; rfl))
          go_wp2
          go_region
          go_end0
          rw [HE.out]
          exact ⟨rfl, HW.out _ _ (Nat.le_refl _) _ rfl⟩
    · have hi2 := hok' h1
      have ei2 := HC.out (idx + 1) hi2
      cases h2 : wsign (buf.getD (idx + 1) 0)
      · have HN := Lib.hid (show endN buf idx = endW buf (buf.length - (idx + 2)) (idx + 2) by unfold endN; rw [h1, h2]; rfl)
        generalize endN buf idx = N at *
        generalize buf.getD idx 0 = xi at *
        generalize buf.getD (idx + 1) 0 = xj at *
        clear hok'
        go_enter Tryd.func144, Tryd.ntmps144
        go_wp2
        go_quiet (fail)
        go_wp2
        go_quiet ((go_at_call 142; first | exact wbqT _ _ _ _ (by assumption) | exact wbqF _ _ _ _ (by assumption) | exact Calls.quiet_of_same (wbsT _ _ (by assumption)) | exact Calls.quiet_of_same (wbsF _ _ (by assumption))))
        go_wp2
        go_loop [1] (fun vi => ∃ k : Nat, idx + 2 ≤ k ∧ k ≤ buf.length + 1 ∧ vi = .int .i64 k ∧ endW buf (buf.length - k) k = N) (fun vi => buf.length - (intOf vi).toNat)
        case atStart => exact ⟨idx + 2, by omega, by omega, by first | rfl | go_num, HN.out.symm⟩
        case round =>
          obtain ⟨k, hk0, hk1, rfl, hp⟩ := hrel
          have HP := Lib.hid hp
          clear hp
          by_cases hlt2 : k < buf.length
          · obtain ⟨j, rfl⟩ : ∃ j, k = j + 1 := ⟨k - 1, by omega⟩
            have e1 := HC.out (j + 1) hlt2
            have e0 := HC.out j (by omega)
            have HS := Lib.hid (show endW buf (buf.length - (j + 1)) (j + 1) = if wsign (buf.getD j 0) && !wsign (buf.getD (j + 1) 0) then j else endW buf (buf.length - (j + 1 + 1)) (j + 1 + 1) by
              rw [show buf.length - (j + 1) = buf.length - (j + 1 + 1) + 1 by omega]; rfl)
            cases g1 : wsign (buf.getD (j + 1) 0)
            · cases g0 : wsign (buf.getD j 0)
              · have HB := Lib.hid (show (wsign (buf.getD j 0) && !wsign (buf.getD (j + 1) 0)) = false by rw [g0]; rfl)
                generalize buf.getD (j + 1) 0 = x1 at *
                generalize buf.getD j 0 = x0 at *
                go_wp2_with (go_at_call 142; refine (wb_calls _ _).mono ?_; rintro e w' ⟨rfl, rfl⟩)
                go_round
                case rel => exact ⟨j + 1 + 1, by omega, by omega, by go_num, by rw [← HP.out, HS.out, HB.out]; rfl⟩
                case measure => simp [intOf]; omega
              · have HB := Lib.hid (show (wsign (buf.getD j 0) && !wsign (buf.getD (j + 1) 0)) = true by rw [g0, g1]; rfl)
                generalize buf.getD (j + 1) 0 = x1 at *
                generalize buf.getD j 0 = x0 at *
                go_wp2_with (go_at_call 142; refine (wb_calls _ _).mono ?_; rintro e w' ⟨rfl, rfl⟩)
                refine bodyPost_ret (results_none rfl _ _ _) rfl ?_
                rw [← HP.out, HS.out, HB.out]
                exact ⟨rfl, HW2.out _ 0 j _ (by omega) _ rfl⟩
            · have HB := Lib.hid (show (wsign (buf.getD j 0) && !wsign (buf.getD (j + 1) 0)) = false by rw [g1]; simp)
              generalize buf.getD (j + 1) 0 = x1 at *
              generalize buf.getD j 0 = x0 at *
              go_wp2_with (go_at_call 142; refine (wb_calls _ _).mono ?_; rintro e w' ⟨rfl, rfl⟩)
              go_round
              case rel => exact ⟨j + 1 + 1, by omega, by omega, by go_num, by rw [← HP.out, HS.out, HB.out]; rfl⟩
              case measure => simp [intOf]; omega
          · have HE := Lib.hid (HP.out.symm.trans (show endW buf (buf.length - k) k = buf.length by rw [show buf.length - k = 0 by omega]; rfl))
            go_wp2
            go_region
            go_end0
            rw [HE.out]
            first | exact ⟨rfl, HW2.out _ 0 _ _ (Nat.le_refl _) _ rfl⟩ | exact ⟨rfl, HW2.out _ 1 _ _ (Nat.le_refl _) _ rfl⟩
      · have HN := Lib.hid (show endN buf idx = endW buf (buf.length - (idx + 1)) (idx + 1) by unfold endN; rw [h1, h2]; rfl)
        generalize endN buf idx = N at *
        generalize buf.getD idx 0 = xi at *
        generalize buf.getD (idx + 1) 0 = xj at *
        clear hok'
        go_enter Tryd.func144, Tryd.ntmps144
        go_wp2
        go_quiet (fail)
        go_wp2
        go_quiet ((go_at_call 142; first | exact wbqT _ _ _ _ (by assumption) | exact wbqF _ _ _ _ (by assumption) | exact Calls.quiet_of_same (wbsT _ _ (by assumption)) | exact Calls.quiet_of_same (wbsF _ _ (by assumption))))
        go_wp2
        go_loop [1] (fun vi => ∃ k : Nat, idx + 1 ≤ k ∧ k ≤ buf.length + 1 ∧ vi = .int .i64 k ∧ endW buf (buf.length - k) k = N) (fun vi => buf.length - (intOf vi).toNat)
        case atStart => exact ⟨idx + 1, by omega, by omega, by first | rfl | go_num, HN.out.symm⟩
        case round =>
          obtain ⟨k, hk0, hk1, rfl, hp⟩ := hrel
          have HP := Lib.hid hp
          clear hp
          by_cases hlt2 : k < buf.length
          · obtain ⟨j, rfl⟩ : ∃ j, k = j + 1 := ⟨k - 1, by omega⟩
            have e1 := HC.out (j + 1) hlt2
            have e0 := HC.out j (by omega)
            have HS := Lib.hid (show endW buf (buf.length - (j + 1)) (j + 1) = if wsign (buf.getD j 0) && !wsign (buf.getD (j + 1) 0) then j else endW buf (buf.length - (j + 1 + 1)) (j + 1 + 1) by
              rw [show buf.length - (j + 1) = buf.length - (j + 1 + 1) + 1 by omega]; rfl)
            cases g1 : wsign (buf.getD (j + 1) 0)
            · cases g0 : wsign (buf.getD j 0)
              · have HB := Lib.hid (show (wsign (buf.getD j 0) && !wsign (buf.getD (j + 1) 0)) = false by rw [g0]; rfl)
                generalize buf.getD (j + 1) 0 = x1 at *
                generalize buf.getD j 0 = x0 at *
                go_wp2_with (go_at_call 142; refine (wb_calls _ _).mono ?_; rintro e w' ⟨rfl, rfl⟩)
                go_round
                case rel => exact ⟨j + 1 + 1, by omega, by omega, by go_num, by rw [← HP.out, HS.out, HB.out]; rfl⟩
                case measure => simp [intOf]; omega
              · have HB := Lib.hid (show (wsign (buf.getD j 0) && !wsign (buf.getD (j + 1) 0)) = true by rw [g0, g1]; rfl)
                generalize buf.getD (j + 1) 0 = x1 at *
                generalize buf.getD j 0 = x0 at *
                go_wp2_with (go_at_call 142; refine (wb_calls _ _).mono ?_; rintro e w' ⟨rfl, rfl⟩)
                refine bodyPost_ret (results_none rfl _ _ _) rfl ?_
                rw [← HP.out, HS.out, HB.out]
                exact ⟨rfl, HW.out _ j (by omega) _ rfl⟩
            · have HB := Lib.hid (show (wsign (buf.getD j 0) && !wsign (buf.getD (j + 1) 0)) = false by rw [g1]; simp)
              generalize buf.getD (j + 1) 0 = x1 at *
              generalize buf.getD j 0 = x0 at *
              go_wp2_with (go_at_call 142; refine (wb_calls _ _).mono ?_; rintro e w' ⟨rfl, rfl⟩)
              go_round
              case rel => exact ⟨j + 1 + 1, by omega, by omega, by go_num, by rw [← HP.out, HS.out, HB.out]; rfl⟩
              case measure => simp [intOf]; omega
          · have HE := Lib.hid (HP.out.symm.trans (show endW buf (buf.length - k) k = buf.length by rw [show buf.length - k = 0 by omega]; rfl))
            go_wp2
            go_region
            go_end0
            rw [HE.out]
            exact ⟨rfl, HW.out _ _ (Nat.le_refl _) _ rfl⟩
set_option maxHeartbeats 1000000 in
theorem endw_calls (m B : Nat) (s : KS) (r : Rest) (w : World) (h : RB w B m r s) (hl : s.buf.length ≤ 1000000000) (hok : s.idx < s.buf.length → wsign (s.buf.getD s.idx 0) = true → s.idx + 1 < s.buf.length) :
    Calls Tryd.prog 111 #[Pt m] w fun e w' => e = .returned (.tuple #[]) ∧ RB w' B m r (kendw s) ∧ Fr B (At m) w w' := by
  have ho := One.new w (Pt m) 68
  have hB := h.lt
  have HC := Lib.hid (Refresh_calls 144 #[Pt w.heap.size] (Pt m) _ _ enter144 (endw_closure w.heap.size m B s r _ ho (by omega) (h.alloc _) hl hok))
  have c0 := ho.cell
  have hmf := made_f
  clear ho h hok
  go_enter Tryd.func111, Tryd.ntmps111
  go_wp2_with (go_at_call 60; refine HC.out.mono ?_; rintro e w1 ⟨rfl, hR, hF⟩)
  go_end0
  exact ⟨rfl, hR, Fr.narrow ((Below.refl _ _).alloc (Nat.le_refl _) _) hF (by omega) (fun _ _ h => h)⟩
end Go.Proofs.YtdinikcfhpfojaaDoor.H
