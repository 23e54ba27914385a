/- The first place of one sign in a text (spec.IndexAll): the contract by which the law FnMoveToThere takes it; of longer texts that are looked for nothing is said. -/
import Derived.Test.YtdinikcfhpfojaaDoorHMoveTo
namespace Go.Proofs.YtdinikcfhpfojaaDoor.H
open Go.RowKit Go.Proofs.YtdinikcfhpfojaaDoorW.PrintWords Go.Proofs.YtdinikcfhpfojaaDoorW.PrintLast Go.Proofs.YtdinikcfhpfojaaDoor.R
set_option linter.unusedVariables false
set_option linter.unusedSimpArgs false
attribute [local go_sem ↓] Go.wp_at_zero Go.wp_at_succ

theorem folded_calls (c : Int) (w : World) : Calls Tryd.prog 59 #[.int .i32 c, .bool false] w fun e w' => e = .returned (.int .i32 c) ∧ w' = w := by
  go_enter Tryd.func59, Tryd.ntmps59
  go_wp2
  go_ret
  exact ⟨rfl, rfl⟩
theorem folded_more (c : Int) (w : World) (a n : Nat) : Calls Tryd.prog 59 #[.int .i32 c, .bool false] (w.drewN (a + n)) fun e w'' => e = .returned (.int .i32 c) ∧ ∃ m, w'' = w.drewN (a + m) := (folded_calls c _).mono fun _ _ k => ⟨k.1, n, k.2⟩
set_option maxHeartbeats 2000000 in
theorem same_calls (g h c1 c2 i : Nat) (l : List Int) (p : Int) (w : World) (hl : l.length ≤ 1000000) (hi : i ≤ l.length) (hc1 : ∀ j, j < l.length → w.cell? ⟨g, j, none⟩ = some (.int .i32 (l.getD j 0))) (hc2 : w.cell? ⟨h, 0, none⟩ = some (.int .i32 p)) :
    Calls Tryd.prog 35 #[.slice (some ⟨g, 0, none⟩) l.length c1, .slice (some ⟨h, 0, none⟩) 1 c2, .int .i64 i, .bool false] w fun e w' => e = .returned (.bool (decide (i < l.length ∧ l.getD i 0 = p))) ∧ ∃ n, w' = w.drewN n := by
  by_cases h1 : i < l.length
  · have e1 := hc1 i h1
    have HC := Lib.hid hc1
    have d1 : decide ((l.length : Int) < (i : Int) + 1) = false := decide_eq_false (by omega)
    have d2 : decide (l.length < i + 1) = false := decide_eq_false (by omega)
    clear hc1
    by_cases hx : l.getD i 0 = p
    · rw [show decide (i < l.length ∧ l.getD i 0 = p) = true from decide_eq_true ⟨h1, hx⟩]
      rw [hx] at e1
      clear hx
      go_enter Tryd.func35, Tryd.ntmps35
      go_wp2
      refine wp_loop_rounds 2 ?_
      rw [rounds_succ]
      go_wp2
      go_quiet ((go_at_call 59; first | exact folded_more _ _ _ _ | exact Calls.quiet_of_same (folded_calls _ _)))
      go_wp2
      rw [rounds_succ]
      go_wp2
      go_ret
      exact ⟨rfl, _, rfl⟩
    · rw [show decide (i < l.length ∧ l.getD i 0 = p) = false from decide_eq_false (fun h => hx h.2)]
      have hne : (l.getD i 0 != p) = true := by simpa using hx
      generalize l.getD i 0 = x at *
      clear hx
      go_enter Tryd.func35, Tryd.ntmps35
      go_wp2
      refine wp_loop_rounds 2 ?_
      rw [rounds_succ]
      go_wp2
      go_quiet ((go_at_call 59; first | exact folded_more _ _ _ _ | exact Calls.quiet_of_same (folded_calls _ _)))
      go_wp2
      go_ret
      exact ⟨rfl, _, rfl⟩
  · obtain rfl : i = l.length := by omega
    rw [show decide (l.length < l.length ∧ l.getD l.length 0 = p) = false from decide_eq_false (fun h => absurd h.1 (Nat.lt_irrefl _))]
    have d1 : decide ((l.length : Int) < (l.length : Int) + 1) = true := decide_eq_true (by omega)
    go_enter Tryd.func35, Tryd.ntmps35
    go_wp2
    go_ret
    exact ⟨rfl, 0, rfl⟩

def optI : Option Nat → Int
  | some i => (i : Int)
  | none => -1
def idx1 (l : List Int) (p : Int) : Int := optI (findF l p l.length 0)
theorem runes_run2 (w : World) (s : ByteArray) (hs : s.size ≤ 1000000) : ∃ c W, (convert 9 66 (.string s)).run Tryd.prog w = .ok (.slice (some ⟨w.heap.size, 0, none⟩) (runesOf s).length c) W ∧ (∀ j, j < (runesOf s).length → W.cell? ⟨w.heap.size, j, none⟩ = some (.int .i32 ((runesOf s).getD j 0))) ∧ Below w.heap.size w W ∧ W.heap.size = w.heap.size + 1 := by
  have hcv := runes_run (P := Tryd.prog) w 9 66 21 s (by kernel_rfl) (by kernel_rfl) (by kernel_rfl) (by omega)
  have hR := Rec.at_ (b := w.heap.size) w.drew (runeCells (runesOf s) (grownCap w (runesOf s).length 0 21)) 21 rfl
  exact ⟨_, _, hcv, fun j hj => hR.cell j (runeCells_at _ _ j hj), ((Below.refl _ _).drew).alloc (Nat.le_refl _) _, by simp⟩
set_option maxHeartbeats 4000000 in
theorem idx_calls (a0 a1 : ByteArray) (p : Int) (w : World) (h0 : a0.size ≤ 1000000) (h1 : a1.size ≤ 1000000) (hp : runesOf a1 = [p]) : Calls Tryd.prog 21 #[.string a0, .string a1] w fun e w' => e = .returned (.int .i64 (idx1 (runesOf a0) p)) ∧ Below w.heap.size w w' := by
  obtain ⟨c1, w1, hr1, hc1, hb1, hz1⟩ := runes_run2 w a0 h0
  obtain ⟨c2, w2, hr2, hc2, hb2, hz2⟩ := runes_run2 w1 a1 h1
  have hlen := runesOf_length a0
  rw [hp] at hr2 hc2
  have e2 := hc2 0 (by simp)
  simp only [List.getD_cons_zero] at e2
  generalize runesOf a0 = l at *
  have hc1' : ∀ j, j < l.length → w2.cell? ⟨w.heap.size, j, none⟩ = some (.int .i32 (l.getD j 0)) := fun j hj => (hb2.cell (p := ⟨w.heap.size, j, none⟩) (by show w.heap.size < w1.heap.size; omega)).trans (hc1 j hj)
  have hbw : Below w.heap.size w w2 := hb1.trans (hb2.mono (by omega))
  have HS := Lib.hid (fun (i nn : Nat) (hi : i ≤ l.length) => same_calls w.heap.size w1.heap.size c1 c2 i l p (w2.drewN nn) (by omega) hi hc1' e2)
  have hr2' : (convert 9 66 (.string a1)).run Tryd.prog w1 = .ok (.slice (some ⟨w1.heap.size, 0, none⟩) 1 c2) w2 := hr2
  generalize hR : findF l p l.length 0 = R
  have hI : idx1 l p = optI R := by unfold idx1; rw [hR]
  have HI := Lib.hid hI
  have HR := Lib.hid hR
  generalize idx1 l p = res at *
  clear hc1 hc2 hc1' e2 hp hr2 hI hR hb1 hb2 hz1 hz2
  go_enter Tryd.func21, Tryd.ntmps21
  cases hl0 : (l.length : Int) == 0
  all_goals
    go_wp2
    go_loopw [7] (fun vi wr => ∃ k nn : Nat, k ≤ l.length + 1 ∧ vi = .int .i64 k ∧ findF l p (l.length - k) k = R ∧ wr = w2.drewN nn) (fun vi _ => l.length + 1 - (intOf vi).toNat)
    case atStart => exact ⟨0, 0, by omega, rfl, HR.out, rfl⟩
    case round =>
      obtain ⟨k, nn, hk, rfl, hf, rfl⟩ := hrel
      have HF := Lib.hid hf
      clear hf
      by_cases hle : k ≤ l.length
      · by_cases hx : k < l.length ∧ l.getD k 0 = p
        · have HX := Lib.hid (show R = some k by rw [← HF.out, show l.length - k = l.length - (k + 1) + 1 by omega]; unfold findF; rw [if_pos hx.2])
          have HC := Lib.hid (HS.out k nn hle)
          rw [decide_eq_true hx] at HC
          clear hx
          go_wp2_with (go_at_call 35; refine HC.out.mono ?_; rintro e w3 ⟨rfl, n3, rfl⟩)
          go_ret
          rw [HI.out, HX.out]
          exact ⟨rfl, pw_below_drewN hbw _⟩
        · have HX := Lib.hid (show findF l p (l.length - (k + 1)) (k + 1) = R by
            rw [← HF.out]
            by_cases hlt : k < l.length
            · rw [show l.length - k = l.length - (k + 1) + 1 by omega]
              conv => rhs; unfold findF
              rw [if_neg (fun h => hx ⟨hlt, h⟩)]
            · rw [show l.length - k = 0 by omega, show l.length - (k + 1) = 0 by omega]; rfl)
          have HC := Lib.hid (HS.out k nn hle)
          rw [decide_eq_false hx] at HC
          clear hx
          go_wp2_with (go_at_call 35; refine HC.out.mono ?_; rintro e w3 ⟨rfl, n3, rfl⟩)
          go_roundw
          case rel => exact ⟨k + 1, _, by omega, by go_num, HX.out, rfl⟩
          case measure => simp only [intOf]; omega
      · have HX := Lib.hid (show R = none by rw [← HF.out, show l.length - k = 0 by omega]; rfl)
        go_wp2
        go_ret
        rw [HI.out, HX.out]
        exact ⟨rfl, pw_below_drewN hbw _⟩
/-- What the law takes. -/
def spec_IndexAll.f (a0 a1 : ByteArray) : Option Int := if a0.size ≤ 1000000 ∧ a1.size ≤ 1000000 then (match runesOf a1 with | [p] => some (idx1 (runesOf a0) p) | _ => none) else none
theorem spec_IndexAll.calls (a0 a1 : ByteArray) (r : Int) (w : World) (h : spec_IndexAll.f a0 a1 = some r) : Calls Tryd.prog 21 #[.string a0, .string a1] w fun e w' => e = .returned (.int .i64 r) ∧ Below w.heap.size w w' := by
  unfold spec_IndexAll.f at h
  by_cases hc : a0.size ≤ 1000000 ∧ a1.size ≤ 1000000
  · rw [if_pos hc] at h
    split at h
    · rename_i p hp
      obtain rfl := Option.some.inj h
      exact idx_calls a0 a1 p w hc.1 hc.2 hp
    · cases h
  · rw [if_neg hc] at h
    cases h
end Go.Proofs.YtdinikcfhpfojaaDoor.H
