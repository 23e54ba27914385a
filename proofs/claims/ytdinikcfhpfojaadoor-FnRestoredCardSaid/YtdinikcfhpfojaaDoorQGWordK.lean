/- (No row is turned.) Steps over readline's buffer that go by words, or to a sign: what each makes of it; no condition but bounds that its callers meet. -/
import Derived.Test.YtdinikcfhpfojaaDoorQGRune
namespace Go.Proofs.YtdinikcfhpfojaaDoor.G
open Go.RowKit Go.Proofs.YtdinikcfhpfojaaDoor.H Go.Proofs.YtdinikcfhpfojaaDoorW.PrintWords Go.Proofs.YtdinikcfhpfojaaDoorW.PrintLast Go.Proofs.YtdinikcfhpfojaaDoor.R
set_option linter.unusedVariables false
set_option linter.unusedSimpArgs false
attribute [local go_sem ↓] Go.wp_at_zero Go.wp_at_succ
set_option maxHeartbeats 1000000 in
theorem wb_calls (c : Int) (w : World) : Calls Tryd.prog 142 #[.int .i32 c] w fun e w' => e = .returned (.bool (!wsign c)) ∧ w = w' := by
  by_cases h1 : 97 ≤ c ∧ c ≤ 122
  · rw [show wsign c = true by simp [wsign, h1]]
    obtain ⟨a, b⟩ := h1
    go_enter Tryd.func142, Tryd.ntmps142
    go_wp2
    go_ret
    exact ⟨rfl, rfl⟩
  by_cases h2 : 65 ≤ c ∧ c ≤ 90
  · rw [show wsign c = true by simp [wsign, h2]]
    obtain ⟨a, b⟩ := h2
    have d1 : decide (97 ≤ c) = false := decide_eq_false (by omega)
    go_enter Tryd.func142, Tryd.ntmps142
    go_wp2
    go_ret
    exact ⟨rfl, rfl⟩
  by_cases h3 : 48 ≤ c ∧ c ≤ 57
  · rw [show wsign c = true by simp [wsign, h3]]
    obtain ⟨a, b⟩ := h3
    have d1 : decide (97 ≤ c) = false := decide_eq_false (by omega)
    have d2 : decide (65 ≤ c) = false := decide_eq_false (by omega)
    go_enter Tryd.func142, Tryd.ntmps142
    go_wp2
    go_ret
    exact ⟨rfl, rfl⟩
  rw [show wsign c = false by simp only [wsign, Bool.or_eq_false_iff, Bool.and_eq_false_iff, decide_eq_false_iff_not]; omega]
  go_enter Tryd.func142, Tryd.ntmps142
  go_wp2
  all_goals
    first
      | (exfalso; omega)
      | (go_ret; exact ⟨rfl, rfl⟩)
theorem enter141 (args : Array Value) (w : World) : (callFunc 141 args).run Tryd.prog w = .ok (.enter 141 args) w := enters (P := Tryd.prog) Tryd.func141 (by kernel_rfl) rfl args w
theorem rb_put {w : World} {B m : Nat} {q : Rest} {bv kv : Value} {i j : Nat} {xs ys : List Int} (hm : Rec w m (rbc bv i q kv) 89) (hb : Own w B bv xs) (hk : Own w B kv ys) (hd : ∀ k, bv.ownBlock = some k → kv.ownBlock ≠ some k) (hB : B ≤ m) (hj : j ≤ xs.length) :
    RB (w.setCell ⟨m, 1, none⟩ (.int .i64 j)) B m q ⟨xs, j, ys⟩ := rb_idx0 hm hb hk hd hB hj
set_option maxHeartbeats 2000000 in
theorem prev_closure (q p m B : Nat) (s : KS) (r : Rest) (w : World) (ho : One w q (Pt m) 68) (hs : One w p (.bool false) 4) (hpm : p ≠ m) (hBp : B ≤ p) (h : RB w B m r s) (hl : s.buf.length ≤ 1000000000) :
    Calls Tryd.prog 141 #[Pt q, Pt p] w fun e w' => e = .returned (.tuple #[]) ∧ RB w' B m r { s with idx := prevW s.buf (s.idx - 1) } ∧ One w' p (.bool (decide (0 < s.idx))) 4 ∧ Fr B (fun k => k = m ∨ k = p) w w' := by
  obtain ⟨bv, kv, hm, hb, hk, hd, hB, hi⟩ := h
  obtain ⟨buf, idx, kill⟩ := s
  dsimp only at *
  obtain ⟨A, c, rfl, hlc, hcm, hA⟩ := hb.form
  have c0 := ho.cell
  have cs := hs.cell
  have zs := hs.free
  have k0 := hm.cell 0 rfl
  have k1 := hm.cell 1 rfl
  have z1 := hm.free 1
  by_cases he : idx = 0
  · subst he
    clear hA
    go_enter Tryd.func141, Tryd.ntmps141
    go_wp2
    refine bodyPost_ret (results_none rfl _ _ _) rfl ?_
    exact ⟨rfl, ⟨_, _, hm, hb, hk, hd, hB, hi⟩, hs, Fr.refl _ _ _⟩
  · obtain ⟨i0, rfl⟩ : ∃ i0, idx = i0 + 1 := ⟨idx - 1, by omega⟩
    rw [show decide (0 < i0 + 1) = true from decide_eq_true (by omega), show i0 + 1 - 1 = i0 by omega]
    have hne : ((i0 : Int) + 1 == 0) = false := beq_eq_false_iff_ne.2 (by omega)
    rcases hA with ⟨_, h0, _⟩ | ⟨g, rfl, hg, hBg, hcell⟩
    · subst h0; simp at hi
    have HC := Lib.hid hcell
    have HF : ∀ j : Nat, j ≤ i0 → ∀ W, W = (w.setCell ⟨m, 1, none⟩ (.int .i64 j)).setCell ⟨p, 0, none⟩ (.bool true) → RB W B m r ⟨buf, j, kill⟩ ∧ One W p (.bool true) 4 ∧ Fr B (fun k => k = m ∨ k = p) w W := by
      rintro j hj W rfl
      have h1 : One (w.setCell ⟨m, 1, none⟩ (.int .i64 j)) p (.bool false) 4 := hs.other (a := ⟨m, 1, none⟩) (by show p ≠ m; exact hpm) _
      exact ⟨(rb_put hm hb hk hd hB (by omega)).one h1 (by decide) hpm, h1.set _, ((Fr.refl _ _ _).set (.inl (.inl rfl)) hB _ _).set (.inl (.inr rfl)) hBp _ _⟩
    have HW := Lib.hid HF
    have y1 : (w.setCell ⟨m, 1, none⟩ (.int .i64 0)).cell? ⟨p, 0, none⟩ = some (.bool false) := (hs.other (a := ⟨m, 1, none⟩) (by show p ≠ m; exact hpm) _).cell
    clear hcell HF
    go_enter Tryd.func141, Tryd.ntmps141
    go_wp2
    go_loop [2] (fun vi => ∃ k : Nat, k ≤ i0 ∧ vi = .int .i64 k ∧ prevW buf k = prevW buf i0) (fun vi => (intOf vi).toNat)
    case atStart => exact ⟨i0, by omega, by first | rfl | go_num, rfl⟩
    case round =>
      obtain ⟨k, hki, rfl, hp⟩ := hrel
      cases k with
      | zero =>
        have HP := Lib.hid hp
        clear hp
        go_wp2
        go_end0
        rw [← HP.out]
        exact ⟨rfl, HW.out 0 (by omega) _ rfl⟩
      | succ j =>
        have e1 := HC.out (j + 1) (by omega)
        have e0 := HC.out j (by omega)
        have HP := Lib.hid hp
        have hst : prevW buf (j + 1) = if begs buf (j + 1) then j + 1 else prevW buf j := rfl
        have HS := Lib.hid hst
        have HV := Lib.hid (HW.out (j + 1) (by omega) _ rfl)
        have y2 : (w.setCell ⟨m, 1, none⟩ (.int .i64 ((j + 1 : Nat) : Int))).cell? ⟨p, 0, none⟩ = some (.bool false) := (hs.other (a := ⟨m, 1, none⟩) (by show p ≠ m; exact hpm) _).cell
        clear hp hst
        cases h1 : wsign (buf.getD (j + 1) 0)
        · have HB := Lib.hid (show begs buf (j + 1) = false by unfold begs; rw [h1]; rfl)
          generalize buf.getD (j + 1) 0 = x1 at *
          generalize buf.getD j 0 = x0 at *
          go_wp2_with (go_at_call 142; refine (wb_calls _ _).mono ?_; rintro e w' ⟨rfl, rfl⟩)
          go_round
          case rel => exact ⟨j, by omega, by go_num, by rw [← HP.out, HS.out, HB.out]; rfl⟩
          case measure => simp [intOf]
        · cases h0 : wsign (buf.getD j 0)
          · have HB := Lib.hid (show begs buf (j + 1) = true by unfold begs; rw [h1, show j + 1 - 1 = j from rfl, h0]; rfl)
            generalize buf.getD (j + 1) 0 = x1 at *
            generalize buf.getD j 0 = x0 at *
            go_wp2_with (go_at_call 142; refine (wb_calls _ _).mono ?_; rintro e w' ⟨rfl, rfl⟩)
            refine bodyPost_ret (results_none rfl _ _ _) rfl ?_
            rw [← HP.out, HS.out, HB.out]
            exact ⟨rfl, HV.out⟩
          · have HB := Lib.hid (show begs buf (j + 1) = false by unfold begs; rw [h1, show j + 1 - 1 = j from rfl, h0]; rfl)
            generalize buf.getD (j + 1) 0 = x1 at *
            generalize buf.getD j 0 = x0 at *
            go_wp2_with (go_at_call 142; refine (wb_calls _ _).mono ?_; rintro e w' ⟨rfl, rfl⟩)
            go_round
            case rel => exact ⟨j, by omega, by go_num, by rw [← HP.out, HS.out, HB.out]; rfl⟩
            case measure => simp [intOf]
set_option maxHeartbeats 2000000 in
theorem prev_calls (m B : Nat) (s : KS) (r : Rest) (w : World) (h : RB w B m r s) (hl : s.buf.length ≤ 1000000000) :
    Calls Tryd.prog 109 #[Pt m] w fun e w' => e = .returned (.bool (decide (0 < s.idx))) ∧ RB w' B m r { s with idx := prevW s.buf (s.idx - 1) } ∧ Fr B (At m) w w' := by
  have ho := (One.new w (Pt m) 68).alloc (.cells #[.bool false] 4)
  have hs := One.at_ (b := w.heap.size + 1) (w.alloc (.cells #[Pt m] 68)) (.bool false) 4 (by simp)
  have hB := h.lt
  have HC := Lib.hid (Refresh_calls 141 #[Pt w.heap.size, Pt (w.heap.size + 1)] (Pt m) _ _ enter141 (prev_closure w.heap.size (w.heap.size + 1) m B s r _ ho hs (by omega) (by omega) ((h.alloc _).alloc _) hl))
  have c0 := ho.cell
  have hmf := made_f
  generalize decide (0 < s.idx) = bb at *
  clear ho h hs
  go_enter Tryd.func109, Tryd.ntmps109
  go_wp2_with (go_at_call 60; refine HC.out.mono ?_; rintro e w1 ⟨rfl, hR, hO, hF⟩)
  have hc := hO.cell
  exact bodyPost_ret (v := .bool bb) (by simp [results, Tryd.results109, go_sem, hc]) rfl ⟨rfl, hR, Fr.narrow (((Below.refl _ _).alloc (Nat.le_refl _) _).alloc (by simp) _) hF (by omega) (fun k hk h => h.elim (fun e => e) (fun e => by omega))⟩
theorem enter143 (args : Array Value) (w : World) : (callFunc 143 args).run Tryd.prog w = .ok (.enter 143 args) w := enters (P := Tryd.prog) Tryd.func143 (by kernel_rfl) rfl args w
set_option maxHeartbeats 2000000 in
theorem next_closure (q m B : Nat) (s : KS) (r : Rest) (w : World) (ho : One w q (Pt m) 68) (h : RB w B m r s) (hl : s.buf.length ≤ 1000000000) :
    Calls Tryd.prog 143 #[Pt q] w fun e w' => e = .returned (.tuple #[]) ∧ RB w' B m r { s with idx := nextW s.buf (s.buf.length - (s.idx + 1)) (s.idx + 1) } ∧ Fr B (At m) w w' := by
  obtain ⟨bv, kv, hm, hb, hk, hd, hB, hi⟩ := h
  obtain ⟨buf, idx, kill⟩ := s
  dsimp only at *
  obtain ⟨A, c, rfl, hlc, hcm, hA⟩ := hb.form
  have c0 := ho.cell
  have k0 := hm.cell 0 rfl
  have k1 := hm.cell 1 rfl
  have z1 := hm.free 1
  have HC := Lib.hid (show ∀ j, j < buf.length → ∃ g, A = some ⟨g, 0, none⟩ ∧ w.cell? ⟨g, j, none⟩ = some (.int .i32 (buf.getD j 0)) ∧ (1 ≤ j → w.cell? ⟨g, j - 1, none⟩ = some (.int .i32 (buf.getD (j - 1) 0))) from fun j hj => by
    rcases hA with ⟨_, h0, _⟩ | ⟨g, rfl, hg, hBg, hcell⟩
    · subst h0; simp at hj
    · exact ⟨g, rfl, hcell j hj, fun h1 => hcell (j - 1) (by omega)⟩)
  have HW := Lib.hid (show ∀ (n j : Nat), j ≤ buf.length → ∀ W, W = (w.drewN n).setCell ⟨m, 1, none⟩ (.int .i64 j) → RB W B m r ⟨buf, j, kill⟩ ∧ Fr B (At m) w W from by
    rintro n j hj W rfl
    exact ⟨rb_idx hm hb hk hd hB hj n, fr_idx n hB _ _⟩)
  clear hA
  generalize hN : nextW buf (buf.length - (idx + 1)) (idx + 1) = N
  have HN := Lib.hid hN
  clear hN
  go_enter Tryd.func143, Tryd.ntmps143
  go_wp2
  go_loop [1] (fun vi => ∃ k : Nat, idx + 1 ≤ k ∧ k ≤ buf.length + 1 ∧ vi = .int .i64 k ∧ nextW buf (buf.length - k) k = N) (fun vi => buf.length - (intOf vi).toNat)
  case atStart => exact ⟨idx + 1, by omega, by omega, by first | rfl | go_num, HN.out⟩
  case round =>
    obtain ⟨k, hk0, hk1, rfl, hp⟩ := hrel
    have HP := Lib.hid hp
    clear hp
    by_cases hlt : k < buf.length
    · obtain ⟨g, rfl, e1, e0'⟩ := HC.out k hlt
      obtain ⟨j, rfl⟩ : ∃ j, k = j + 1 := ⟨k - 1, by omega⟩
      have e0 := e0' (by omega)
      rw [show j + 1 - 1 = j from rfl] at e0
      have HS := Lib.hid (show nextW buf (buf.length - (j + 1)) (j + 1) = if begs buf (j + 1) then j + 1 else nextW buf (buf.length - (j + 1 + 1)) (j + 1 + 1) by
        rw [show buf.length - (j + 1) = buf.length - (j + 1 + 1) + 1 by omega]; rfl)
      clear e0'
      cases h1 : wsign (buf.getD (j + 1) 0)
      · have HB := Lib.hid (show begs buf (j + 1) = false by unfold begs; rw [h1]; rfl)
        generalize buf.getD (j + 1) 0 = x1 at *
        generalize buf.getD j 0 = x0 at *
        go_wp2_with (go_at_call 142; refine (wb_calls _ _).mono ?_; rintro e w' ⟨rfl, rfl⟩)
        go_round
        case rel => exact ⟨j + 1 + 1, by omega, by omega, by go_num, by rw [← HP.out, HS.out, HB.out]; rfl⟩
        case measure => simp [intOf]; omega
      · cases h0 : wsign (buf.getD j 0)
        · have HB := Lib.hid (show begs buf (j + 1) = true by unfold begs; rw [h1, show j + 1 - 1 = j from rfl, h0]; rfl)
          have HV := Lib.hid (HW.out 0 (j + 1) (by omega) _ rfl)
          generalize buf.getD (j + 1) 0 = x1 at *
          generalize buf.getD j 0 = x0 at *
          go_wp2_with (go_at_call 142; refine (wb_calls _ _).mono ?_; rintro e w' ⟨rfl, rfl⟩)
          refine bodyPost_ret (results_none rfl _ _ _) rfl ?_
          rw [← HP.out, HS.out, HB.out]
          exact ⟨rfl, HV.out⟩
        · have HB := Lib.hid (show begs buf (j + 1) = false by unfold begs; rw [h1, show j + 1 - 1 = j from rfl, h0]; rfl)
          generalize buf.getD (j + 1) 0 = x1 at *
          generalize buf.getD j 0 = x0 at *
          go_wp2_with (go_at_call 142; refine (wb_calls _ _).mono ?_; rintro e w' ⟨rfl, rfl⟩)
          go_round
          case rel => exact ⟨j + 1 + 1, by omega, by omega, by go_num, by rw [← HP.out, HS.out, HB.out]; rfl⟩
          case measure => simp [intOf]; omega
    · have hE : nextW buf (buf.length - k) k = buf.length := by rw [show buf.length - k = 0 by omega]; rfl
      have HE := Lib.hid (HP.out.symm.trans hE)
      clear hE
      go_wp2
      go_region
      go_end0
      rw [HE.out]
      exact ⟨rfl, HW.out 1 _ (Nat.le_refl _) _ rfl⟩
set_option maxHeartbeats 1000000 in
theorem next_calls (m B : Nat) (s : KS) (r : Rest) (w : World) (h : RB w B m r s) (hl : s.buf.length ≤ 1000000000) :
    Calls Tryd.prog 110 #[Pt m] w fun e w' => e = .returned (.tuple #[]) ∧ RB w' B m r { s with idx := nextW s.buf (s.buf.length - (s.idx + 1)) (s.idx + 1) } ∧ Fr B (At m) w w' := by
  have ho := One.new w (Pt m) 68
  have hB := h.lt
  have HC := Lib.hid (Refresh_calls 143 #[Pt w.heap.size] (Pt m) _ _ enter143 (next_closure w.heap.size m B s r _ ho (h.alloc _) hl))
  have c0 := ho.cell
  have hmf := made_f
  clear ho h
  go_enter Tryd.func110, Tryd.ntmps110
  go_wp2_with (go_at_call 60; refine HC.out.mono ?_; rintro e w1 ⟨rfl, hR, hF⟩)
  go_end0
  exact ⟨rfl, hR, Fr.narrow ((Below.refl _ _).alloc (Nat.le_refl _) _) hF (by omega) (fun _ _ h => h)⟩
end Go.Proofs.YtdinikcfhpfojaaDoor.G
