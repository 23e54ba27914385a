/- (No row is turned.) Steps over readline's buffer that take out or put in: what each makes of it; no condition but bounds that its callers meet. -/
import Derived.Test.YtdinikcfhpfojaaDoorQGRow
namespace Go.Proofs.YtdinikcfhpfojaaDoor.G
open Go.RowKit Go.Proofs.YtdinikcfhpfojaaDoor.H Go.Proofs.YtdinikcfhpfojaaDoorW.PrintWords Go.Proofs.YtdinikcfhpfojaaDoorW.PrintLast Go.Proofs.YtdinikcfhpfojaaDoor.R
set_option linter.unusedVariables false
set_option linter.unusedSimpArgs false
attribute [local go_sem ↓] Go.wp_at_zero Go.wp_at_succ
/-- Where 's[k:]' of a row begins. -/
def tailA (A : Option Addr) (c k : Nat) : Option Addr := if c = k then A else A.map (·.add k)
theorem src_tail {w : World} {B : Nat} {A : Option Addr} {c k : Nat} {xs : List Int} (h : Own w B (.slice A xs.length c) xs) (hk : k ≤ xs.length) : Src w (tailA A c k) (c - k) (xs.drop k) := by
  obtain ⟨A', c', e, hlc, hcm, hA⟩ := h.form
  injection e with e1 e2 e3
  subst e1 e3
  rcases hA with ⟨rfl, rfl, rfl⟩ | ⟨g, rfl, hg, hBg, hc⟩
  · left; simp at hk; subst hk; exact ⟨by unfold tailA; split <;> rfl, rfl, rfl⟩
  · right
    by_cases hck : c = k
    · refine ⟨_, by unfold tailA; rw [if_pos hck], fun j hj => ?_⟩
      rw [List.length_drop] at hj; omega
    · refine ⟨⟨g, k, none⟩, by unfold tailA; rw [if_neg hck]; simp only [Option.map_some]; congr 1; unfold Addr.add; split <;> simp_all, fun j hj => ?_⟩
      rw [List.length_drop] at hj
      have := hc (k + j) (by omega)
      rw [show ((⟨g, k, none⟩ : Addr).add j) = ⟨g, k + j, none⟩ by unfold Addr.add; split <;> simp_all]
      rw [this]
      simp [List.getD]
theorem tail_lt {w : World} {B : Nat} {A : Option Addr} {c k : Nat} {xs : List Int} (h : Own w B (.slice A xs.length c) xs) : ∀ ad, tailA A c k = some ad → ad.block < w.heap.size := by
  intro ad e
  obtain ⟨A', c', e', hlc, hcm, hA⟩ := h.form
  injection e' with e1 e2 e3
  subst e1 e3
  rcases hA with ⟨rfl, rfl, rfl⟩ | ⟨g, rfl, ⟨cs, hg⟩, hBg, hc⟩
  · unfold tailA at e; split at e <;> simp at e
  · have := lt_of_block hg
    unfold tailA at e
    split at e
    · injection e with e; subst e; exact this
    · simp at e; subst e; rw [add_block]; exact this
theorem own_cut {w : World} {B : Nat} {A : Option Addr} {c k n : Nat} {xs : List Int} (h : Own w B (.slice A n c) xs) (hk : k ≤ xs.length) : Own w B (.slice A k c) (xs.take k) ∧ (Value.slice A k c).ownBlock = (Value.slice A n c).ownBlock := by
  have hn : n = xs.length := by
    obtain ⟨A', c', e, _⟩ := h.form
    injection e
  subst hn
  rcases h.2 with ⟨e, hn⟩ | ⟨g, cap, cur, e, hb, hh, hnc, hm, hs, hx⟩
  · injection e with e1 e2 e3
    subst e1 e3
    have : k = 0 := by omega
    subst this
    exact ⟨⟨by simp, .inl ⟨rfl, by simp⟩⟩, rfl⟩
  · injection e with e1 e2 e3
    subst e1 e3
    have hkl : (xs.take k).length = k := by rw [List.length_take]; omega
    refine ⟨⟨by simp, .inr ⟨g, _, cur, by rw [hkl], hb, hh, by rw [hkl]; omega, hm, hs, ?_⟩⟩, rfl⟩
    have hx' := congrArg (List.take k) hx
    rw [List.take_take] at hx'
    rw [List.map_take, hkl, ← hx']
    congr 1
    omega
theorem enter147 (args : Array Value) (w : World) : (callFunc 147 args).run Tryd.prog w = .ok (.enter 147 args) w := enters (P := Tryd.prog) Tryd.func147 (by kernel_rfl) rfl args w
set_option maxHeartbeats 4000000 in
theorem kill_closure (q m B : Nat) (s : KS) (r : Rest) (w : World) (ho : One w q (Pt m) 68) (hqm : q ≠ m) (h : RB w B m r s) (hl : s.buf.length ≤ 1000000000) :
    Calls Tryd.prog 147 #[Pt q] w fun e w' => e = .returned (.tuple #[]) ∧ RB w' B m r ⟨s.buf.take s.idx, s.idx, s.buf.drop s.idx⟩ ∧ Fr B (At m) w w' := by
  have h' := h
  obtain ⟨bv, kv, hm, hb, hk, hd, hB, hi⟩ := h
  obtain ⟨buf, idx, kill⟩ := s
  dsimp only at *
  obtain ⟨A, c, rfl, hlc, hcm, hA⟩ := hb.form
  have c0 := ho.cell
  have k0 := hm.cell 0 rfl
  have k1 := hm.cell 1 rfl
  have i0 : (0 : Int) ≤ (idx : Int) := by omega
  have i1 : (idx : Int) ≤ (buf.length : Int) := by omega
  have i2 : (buf.length : Int) ≤ (c : Int) := by omega
  have i3 : (idx : Int) ≤ (c : Int) := by omega
  unfold maxLen at hcm
  have HP := Lib.hid (show Calls Tryd.prog 103 #[Pt m, .slice (if c = idx then A else Option.map (fun x => x.add idx) A) (buf.length - idx) (c - idx)] w.drew _ from pushKill_calls m B ⟨buf, idx, kill⟩ r _ (tailA A c idx) (buf.length - idx) (c - idx) (buf.drop idx) w.drew ⟨_, hm.drew, hb.drew, hk.drew, hd, hB, hi⟩ (by simp) (src_tail hb.drew hi) (tail_lt hb.drew) (by simp; omega))
  obtain ⟨T, hT⟩ : ∃ T, (if c = idx then A else Option.map (fun x => x.add idx) A) = T := ⟨_, rfl⟩
  rw [hT] at HP
  clear hA
  go_enter Tryd.func147, Tryd.ntmps147
  go_wp2
  go_region_held3 (fun w' => w'.cell? ⟨q, 0, none⟩ = some (Pt m) ∧ w'.cell? ⟨m, 0, none⟩ = some (.slice A buf.length c) ∧ w'.cell? ⟨m, 1, none⟩ = some (.int .i64 idx)) (first | go_keep | (exact ⟨hq1, hx0, hx1⟩))
    (first
      | (go_at_call 103; (with_reducible refine HP.out.mono ?_); rintro e w1 ⟨rfl, hR1, hF1⟩; obtain ⟨kv1, hm1, hb1, hk1, hd1, _, hi1⟩ := hR1; dsimp only at hm1 hb1 hk1 hi1; have ho1 := hF1.one ho.drew (by decide) (by exact hqm); have hq1 := ho1.cell; have hx0 := hm1.cell 0 rfl; have hx1 := hm1.cell 1 rfl; have z0 := hm1.free 0))
  have hm2 := hm1.set 0 (.slice A idx c)
  have hb2 := hb1.set hm1 (by decide) 0 (.slice A idx c)
  have hk2 := hk1.set hm1 (by decide) 0 (.slice A idx c)
  go_wp2
  go_region
  go_end0
  obtain ⟨hb3, he3⟩ := own_cut hb2 hi
  exact ⟨rfl, ⟨_, _, hm2.drew, hb3.drew, hk2.drew, fun k hk => by rw [he3] at hk; exact hd1 k hk, hB, by simp; omega⟩, (fr_at (((Fr.refl _ _ _).drew).trans hF1) hB _ _).drew⟩
theorem kill_calls (m B : Nat) (s : KS) (r : Rest) (w : World) (h : RB w B m r s) (hl : s.buf.length ≤ 1000000000) :
    Calls Tryd.prog 114 #[Pt m] w fun e w' => e = .returned (.tuple #[]) ∧ RB w' B m r ⟨s.buf.take s.idx, s.idx, s.buf.drop s.idx⟩ ∧ Fr B (At m) w w' := by
  have ho := One.new w (Pt m) 68
  have hB := h.lt
  have HC := Lib.hid (Refresh_calls 147 #[Pt w.heap.size] (Pt m) _ _ enter147 (kill_closure w.heap.size m B s r _ ho (by omega) (h.alloc _) hl))
  have c0 := ho.cell
  have hmf := made_f
  clear ho h
  go_enter Tryd.func114, Tryd.ntmps114
  go_wp2_with (go_at_call 60; refine HC.out.mono ?_; rintro e w1 ⟨rfl, hR, hF⟩)
  go_end0
  exact ⟨rfl, hR, Fr.narrow ((Below.refl _ _).alloc (Nat.le_refl _) _) hF (by omega) (fun _ _ h => h)⟩
end Go.Proofs.YtdinikcfhpfojaaDoor.G
