/- (No row is turned.) Steps over readline's buffer that lay a line, empty it, or put another sign: what each makes of it; no condition but bounds that its callers meet. -/
import Derived.Test.YtdinikcfhpfojaaDoorQGKill
namespace Go.Proofs.YtdinikcfhpfojaaDoor.G
open Go.RowKit Go.Proofs.YtdinikcfhpfojaaDoor.H Go.Proofs.YtdinikcfhpfojaaDoorW.PrintWords Go.Proofs.YtdinikcfhpfojaaDoorW.PrintLast Go.Proofs.YtdinikcfhpfojaaDoor.R
set_option linter.unusedVariables false
set_option linter.unusedSimpArgs false
attribute [local go_sem ↓] Go.wp_at_zero Go.wp_at_succ
theorem enter106 (args : Array Value) (w : World) : (callFunc 106 args).run Tryd.prog w = .ok (.enter 106 args) w := enters (P := Tryd.prog) Tryd.func106 (by kernel_rfl) rfl args w
set_option maxHeartbeats 4000000 in
theorem erase_closure (q m B : Nat) (s : KS) (r : Rest) (w : World) (ho : One w q (Pt m) 68) (hqm : q ≠ m) (h : RB w B m r s) (hl : s.buf.length ≤ 1000000000) :
    Calls Tryd.prog 106 #[Pt q] w fun e w' => e = .returned (.tuple #[]) ∧ RB w' B m r ⟨[], 0, s.buf⟩ ∧ Fr B (At m) w w' := by
  obtain ⟨bv, kv, hm, hb, hk, hd, hB, hi⟩ := h
  obtain ⟨buf, idx, kill⟩ := s
  dsimp only at *
  obtain ⟨A, c, rfl, hlc, hcm, hA⟩ := hb.form
  have c0 := ho.cell
  have z1 := hm.free 1
  have k1 := hm.cell 1 rfl
  have hm1 := hm.set 1 (.int .i64 0)
  have hb1 := hb.set hm (by decide) 1 (.int .i64 0)
  have hk1 := hk.set hm (by decide) 1 (.int .i64 0)
  have ho1 := ho.other (a := ⟨m, 1, none⟩) (by show q ≠ m; exact hqm) (.int .i64 0)
  have hF0 : Fr B (At m) w (w.setCell ⟨m, 1, none⟩ (.int .i64 0)) := fr_idx0 hB _ _
  have i2 : (buf.length : Int) ≤ (c : Int) := by omega
  unfold maxLen at hcm
  have hsrc : Src (w.setCell ⟨m, 1, none⟩ (.int .i64 0)).drew A c buf := by
    obtain ⟨A', c', e, _, _, hA'⟩ := hb1.form
    injection e with e1 e2 e3
    subst e1 e3
    rcases hA' with ⟨rfl, rfl, rfl⟩ | ⟨g, rfl, hg, hBg, hc⟩
    · exact .inl ⟨rfl, rfl, rfl⟩
    · exact .inr ⟨_, rfl, fun j hj => by rw [show ((⟨g, 0, none⟩ : Addr).add j) = ⟨g, j, none⟩ by unfold Addr.add; split <;> simp_all]; exact hc j hj⟩
  have hlt : ∀ ad, A = some ad → ad.block < (w.setCell ⟨m, 1, none⟩ (.int .i64 0)).drew.heap.size := fun ad e => by
    subst e
    exact hb1.lt _ rfl
  have HP := Lib.hid (pushKill_calls m B ⟨buf, 0, kill⟩ r _ A buf.length c buf (w.setCell ⟨m, 1, none⟩ (.int .i64 0)).drew ⟨_, hm1.drew, hb1.drew, hk1.drew, hd, hB, Nat.zero_le _⟩ rfl hsrc hlt hl)
  clear hA hsrc hlt
  go_enter Tryd.func106, Tryd.ntmps106
  go_wp2
  have d0 := ho1.cell
  have d1 := hm1.cell 0 rfl
  generalize w.setCell ⟨m, 1, none⟩ (.int .i64 0) = W at *
  go_region_held3 (fun w' => w'.cell? ⟨q, 0, none⟩ = some (Pt m) ∧ w'.cell? ⟨m, 0, none⟩ = some (.slice A buf.length c)) (first | go_keep | (exact ⟨hq1, hx0⟩))
    (first
      | (go_at_call 103; (with_reducible refine HP.out.mono ?_); rintro e w1 ⟨rfl, hR1, hF1⟩; obtain ⟨kv1, hm1, hb1, hk1, hd1, _, hi1⟩ := hR1; dsimp only at hm1 hb1 hk1 hi1; have ho1 := hF1.one ho1.drew (by decide) (by exact hqm); have hq1 := ho1.cell; have hx0 := hm1.cell 0 rfl; have z0 := hm1.free 0))
  have hm2 := hm1.set 0 (.slice A 0 c)
  have hb2 := hb1.set hm1 (by decide) 0 (.slice A 0 c)
  have hk2 := hk1.set hm1 (by decide) 0 (.slice A 0 c)
  go_wp2
  go_region
  go_end0
  obtain ⟨hb3, he3⟩ := own_cut (k := 0) hb2 (Nat.zero_le _)
  exact ⟨rfl, ⟨_, _, hm2.drew, (by simpa using hb3.drew), hk2.drew, fun k hk => by rw [he3] at hk; exact hd1 k hk, hB, Nat.le_refl _⟩, (fr_at ((hF0.drew).trans hF1) hB _ _).drew⟩
theorem erase_calls (m B : Nat) (s : KS) (r : Rest) (w : World) (h : RB w B m r s) (hl : s.buf.length ≤ 1000000000) :
    Calls Tryd.prog 72 #[Pt m] w fun e w' => e = .returned (.tuple #[]) ∧ RB w' B m r ⟨[], 0, s.buf⟩ ∧ Fr B (At m) w w' := by
  have ho := One.new w (Pt m) 68
  have hB := h.lt
  have HC := Lib.hid (Refresh_calls 106 #[Pt w.heap.size] (Pt m) _ _ enter106 (erase_closure w.heap.size m B s r _ ho (by omega) (h.alloc _) hl))
  have c0 := ho.cell
  have hmf := made_f
  clear ho h
  go_enter Tryd.func72, Tryd.ntmps72
  go_wp2_with (go_at_call 60; refine HC.out.mono ?_; rintro e w1 ⟨rfl, hR, hF⟩)
  go_end0
  exact ⟨rfl, hR, Fr.narrow ((Below.refl _ _).alloc (Nat.le_refl _) _) hF (by omega) (fun _ _ h => h)⟩
/-- The buffer at block m, what it keeps told. -/
def RBk (w : World) (B m : Nat) (q : Rest) (kv : Value) (s : KS) : Prop := ∃ bv, Rec w m (rbc bv s.idx q kv) 89 ∧ Own w B kv s.kill ∧ B ≤ m
theorem RBk.below {w w1 : World} {B m : Nat} {q : Rest} {kv : Value} {s : KS} (h : RBk w B m q kv s) (hb1 : Below w.heap.size w w1) : RBk w1 B m q kv s := by
  obtain ⟨bv, hm, hk, hB⟩ := h
  exact ⟨bv, hm.stays hb1, hk.below hb1, hB⟩
theorem RB.rbk {w : World} {B m : Nat} {q : Rest} {s : KS} (h : RB w B m q s) : ∃ kv, RBk w B m q kv s ∧ ∀ k, kv.ownBlock = some k → k < w.heap.size := by
  obtain ⟨bv, kv, hm, hb, hk, hd, hB, hi⟩ := h
  exact ⟨kv, ⟨bv, hm, hk, hB⟩, hk.lt⟩
theorem enter61 (args : Array Value) (w : World) : (callFunc 61 args).run Tryd.prog w = .ok (.enter 61 args) w := enters (P := Tryd.prog) Tryd.func61 (by kernel_rfl) rfl args w
set_option maxHeartbeats 2000000 in
theorem set_closure (a q b m B i : Nat) (s : KS) (r : Rest) (A : Option Addr) (n c : Nat) (xs : List Int) (w : World) (ha : One w a (.slice A n c) 66) (ho : One w q (Pt m) 68) (hi0 : One w b (.int .i64 i) 3) (ham : a ≠ m) (hqm : q ≠ m) (hbm : b ≠ m) (kv : Value) (h : RBk w B m r kv s) (hn : n = xs.length) (hx : Own w B (.slice A n c) xs) (hi : i ≤ xs.length)
    (hd : ∀ k, (Value.slice A n c).ownBlock = some k → kv.ownBlock ≠ some k) :
    Calls Tryd.prog 61 #[Pt a, Pt q, Pt b] w fun e w' => e = .returned (.tuple #[]) ∧ RB w' B m r ⟨xs, i, s.kill⟩ ∧ Fr B (At m) w w' := by
  subst hn
  obtain ⟨bv, hm, hk, hB⟩ := h
  obtain ⟨buf, idx, kill⟩ := s
  dsimp only at *
  have ca := ha.cell
  have c0 := ho.cell
  have cb := hi0.cell
  have k0 := hm.cell 0 rfl
  have z0 := hm.free 0
  have hm1 := hm.set 0 (.slice A xs.length c)
  have hx1 := hx.set hm (by decide) 0 (.slice A xs.length c)
  have hk1 := hk.set hm (by decide) 0 (.slice A xs.length c)
  have c1 := (ho.other (a := ⟨m, 0, none⟩) (by show q ≠ m; exact hqm) (.slice A xs.length c)).cell
  have c2 := (hi0.other (a := ⟨m, 0, none⟩) (by show b ≠ m; exact hbm) (.slice A xs.length c)).cell
  have k1 := hm1.cell 1 rfl
  have z1 := hm1.free 1
  have hF : Fr B (At m) w ((w.setCell ⟨m, 0, none⟩ (.slice A xs.length c)).setCell ⟨m, 1, none⟩ (.int .i64 i)) := fr_at (fr_idx0 hB _ _) hB _ _
  have HR : RB ((w.setCell ⟨m, 0, none⟩ (.slice A xs.length c)).setCell ⟨m, 1, none⟩ (.int .i64 i)) B m r ⟨xs, i, kill⟩ := ⟨_, kv, hm1.set 1 (.int .i64 i), hx1.set hm1 (by decide) 1 _, hk1.set hm1 (by decide) 1 _, hd, hB, hi⟩
  have HRH := Lib.hid (And.intro HR hF)
  clear HR hF hm1 hx1 hk1
  go_enter Tryd.func61, Tryd.ntmps61
  go_wp2
  go_end0
  exact ⟨rfl, HRH.out⟩
set_option maxHeartbeats 2000000 in
theorem set_calls (m B i : Nat) (s : KS) (r : Rest) (A : Option Addr) (n c : Nat) (xs : List Int) (w : World) (kv : Value) (h : RBk w B m r kv s) (hn : n = xs.length) (hx : Own w B (.slice A n c) xs) (hi : i ≤ xs.length) (hd : ∀ k, (Value.slice A n c).ownBlock = some k → kv.ownBlock ≠ some k) :
    Calls Tryd.prog 37 #[Pt m, .int .i64 i, .slice A n c] w fun e w' => e = .returned (.tuple #[]) ∧ RB w' B m r ⟨xs, i, s.kill⟩ ∧ Fr B (At m) w w' := by
  have b1 : Below w.heap.size w (((w.alloc (.cells #[Pt m] 68)).alloc (.cells #[.int .i64 i] 3)).alloc (.cells #[.slice A n c] 66)) := (((Below.refl _ _).alloc (Nat.le_refl _) _).alloc (by simp) _).alloc (by simp; omega) _
  have o0 := ((One.new w (Pt m) 68).alloc (.cells #[.int .i64 i] 3)).alloc (.cells #[.slice A n c] 66)
  have o1 := (One.at_ (b := w.heap.size + 1) (w.alloc (.cells #[Pt m] 68)) (.int .i64 i) 3 (by simp)).alloc (.cells #[.slice A n c] 66)
  have o2 := One.at_ (b := w.heap.size + 2) ((w.alloc (.cells #[Pt m] 68)).alloc (.cells #[.int .i64 i] 3)) (.slice A n c) 66 (by simp)
  have hml : m < w.heap.size ∧ B ≤ m := by obtain ⟨bv, hm, _, hB⟩ := h; exact ⟨hm.lt, hB⟩
  have HC := Lib.hid (Refresh_calls 61 #[Pt (w.heap.size + 2), Pt w.heap.size, Pt (w.heap.size + 1)] (Pt m) _ _ enter61 (set_closure (w.heap.size + 2) w.heap.size (w.heap.size + 1) m B i s r A n c xs _ o2 o0 o1 (by omega) (by omega) (by omega) kv (h.below b1) hn (hx.below b1) hi hd))
  have c0 := o0.cell
  have hmf := made_f
  clear o0 o1 o2 h hx hd hn
  go_enter Tryd.func37, Tryd.ntmps37
  go_wp2_with (go_at_call 60; refine HC.out.mono ?_; rintro e w1 ⟨rfl, hR, hF⟩)
  go_end0
  exact ⟨rfl, hR, Fr.narrow b1 hF (by omega) (fun _ _ h => h)⟩
end Go.Proofs.YtdinikcfhpfojaaDoor.G
