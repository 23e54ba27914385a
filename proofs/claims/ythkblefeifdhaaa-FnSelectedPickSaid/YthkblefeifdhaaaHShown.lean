/- Which suggestion is selected behind steps, and the first one that is shown (impl.Shown): the contract by which the law FnShown takes it, for at most 1000 suggestions; of more nothing is said. -/
import Derived.Test.YthkblefeifdhaaaHManager
namespace Go.Proofs.Ythkblefeifdhaaa.H
open Go.RowKit Go.Proofs.YthkblefeifdhaaaW.PrintWords Go.Proofs.YthkblefeifdhaaaW.PrintLast
set_option linter.unusedVariables false
set_option linter.unusedSimpArgs false

theorem kept_upd (n : Nat) (most : Int) (p : Int × Int) (h0 : 0 ≤ most) (h1 : p.1 ≤ n + 1) (h2 : 0 ≤ p.2) (h3 : p.2 ≤ n + 2) : Kept n (upd n most p) := by
  unfold upd Kept
  split
  · exact ⟨by simp, by simp, by simp, by simp; omega⟩
  · split
    · dsimp only; split <;> omega
    · omega
theorem kept_pick (n : Nat) (most : Int) (p : Int × Int) (s : Int) (h0 : 0 ≤ most) (h : Kept n p) : Kept n (pick1 n most p s) := by
  obtain ⟨h1, h2, h3, h4⟩ := h
  unfold pick1
  split
  · unfold nxt; refine kept_upd n most _ h0 (by dsimp only; omega) ?_ ?_ <;> dsimp only <;> split <;> omega
  split
  · unfold prv; refine kept_upd n most _ h0 (by dsimp only; omega) ?_ ?_ <;> dsimp only <;> split <;> omega
  split
  · exact ⟨by simp, by simp, by simp, by simp; omega⟩
  · exact ⟨h1, h2, h3, h4⟩
theorem kept_start (n : Nat) : Kept n (-1, 0) := ⟨by simp, by simp, by simp, by simp; omega⟩

set_option maxHeartbeats 1000000 in
theorem hands_manager (q n c : Nat) (A : Option Addr) : Hands 85 q (.slice A n c) := by
  intro d0 d1 w h
  have c0 := (h.alloc (.cells #[d0, d1] 127)).cell
  go_enter Try.func85, Try.ntmps85
  go_wp2
  go_ret
  exact ⟨rfl, (Below.refl _ _).alloc (Nat.le_refl _) _⟩

set_option maxRecDepth 100000 in
theorem made_suggests (n : Nat) (w : World) (hn : n ≤ 1000) : ∃ X, (Instr.makeSlice 124 (.int .i64 n) (.int .i64 n)).run Try.prog w = .ok (.slice (some ⟨w.heap.size, 0, none⟩) n n) (w.alloc (.cells X 102)) := by
  have hi : ∃ i z, Try.prog.info? 102 = some i ∧ i.zero = some z ∧ i.bytes = 32 := ⟨_, _, rfl, rfl, rfl⟩
  obtain ⟨i, z, hi, hz, hb⟩ := hi
  have := run_make (P := Try.prog) w 124 102 i z (by kernel_rfl) hi hz .i64 .i64 n n (by omega) (by omega) (by rw [hb]; omega) (by omega)
  exact ⟨_, this⟩

theorem enter_manager (args : Array Value) (w : World) : (callFunc 85 args).run Try.prog w = .ok (.enter 85 args) w :=
  enters (P := Try.prog) Try.func85 (by kernel_rfl) rfl args w
set_option maxRecDepth 100000 in
set_option maxHeartbeats 2000000 in
theorem manager_calls (n : Nat) (most : Int) (w : World) (hn : n ≤ 1000) (h0 : 0 ≤ most) (h1 : most ≤ 65535) : Calls Try.prog 58 #[.int .i64 n, .int .i64 most] w fun e w' =>
    ∃ m q A, e = .returned (.pointer (some ⟨m, 0, none⟩)) ∧ Rec w' m (mgr (-1) (.slice A n n) most 85 q 0) 131 ∧ One w' q (.slice A n n) 124 ∧ q < m ∧ w.heap.size ≤ q ∧ Below w.heap.size w w' := by
  obtain ⟨X, hmk⟩ := made_suggests n w hn
  have hmf := @made_func Try.prog
  have hnn : (n : Int) ≤ 1000 := by omega
  have HR := Lib.hid (fun (W : World) hm hq => Reset_calls (w.heap.size + 2) 85 (w.heap.size + 1) n n (some ⟨w.heap.size, 0, none⟩) most (hands_manager _ _ _ _) enter_manager (by omega) (-1) 0 (.slice none 0 0) W hm hq)
  have hB : Below w.heap.size w (((w.alloc (.cells X 102)).alloc (.cells #[.slice (some ⟨w.heap.size, 0, none⟩) n n] 124)).alloc (.cells (mgr (-1) (.slice none 0 0) most 85 (w.heap.size + 1) 0).toArray 131)) := (((Below.refl _ _).alloc (Nat.le_refl _) _).alloc (by simp) _).alloc (by simp; omega) _
  have o1 := (One.at_ (b := w.heap.size + 1) (w.alloc (.cells X 102)) (.slice (some ⟨w.heap.size, 0, none⟩) n n) 124 (by simp)).alloc (.cells (mgr (-1) (.slice none 0 0) most 85 (w.heap.size + 1) 0).toArray 131)
  have o2 := Rec.at_ (b := w.heap.size + 2) ((w.alloc (.cells X 102)).alloc (.cells #[.slice (some ⟨w.heap.size, 0, none⟩) n n] 124)) (mgr (-1) (.slice none 0 0) most 85 (w.heap.size + 1) 0) 131 (by simp)
  go_enter Try.func58, Try.ntmps58
  go_wp2_with (first | (go_at_call 86; refine (HR.out _ o2 o1).mono ?_; rintro e w1 ⟨rfl, h1, b1⟩) | (go_at_call 84; go_in))
  all_goals try go_wp2_with (first | (go_at_call 86; refine (HR.out _ o2 o1).mono ?_; rintro e w1 ⟨rfl, h1, b1⟩))
  go_ret
  exact ⟨_, _, _, rfl, h1, o1.below b1 (by omega), by omega, by omega, hB.trans (b1.mono (by omega))⟩

theorem foldl_kept (n : Nat) (most : Int) (h0 : 0 ≤ most) (l : List Int) (p : Int × Int) (h : Kept n p) : Kept n (l.foldl (pick1 n most) p) := by
  induction l generalizing p with
  | nil => exact h
  | cons s l ih => exact ih _ (kept_pick n most p s h0 h)

def impl_Shown.f (a0 a1 : Int) (l2 : List Int) : Option (Int × Int) := if 0 ≤ a0 ∧ a0 ≤ 1000 ∧ 0 ≤ a1 ∧ a1 ≤ 65535 ∧ l2.length ≤ 1000000 then some (l2.foldl (pick1 a0.toNat a1) (-1, 0)) else none

set_option maxHeartbeats 4000000 in
theorem impl_Shown.calls (a0 a1 : Int) (A2 : Option Addr) (c2 : Nat) (l2 : List Int) (r1 r2 : Int) (w : World) (hr2 : Kd.C (Kd.int .u8) w A2 l2.length l2) (hc2 : l2.length ≤ c2) (h : impl_Shown.f a0 a1 l2 = some (r1, r2)) :
    Calls Try.prog 31 #[.int .i64 a0, .int .i64 a1, .slice A2 l2.length c2] w fun e w' => e = .returned (.tuple #[.int .i64 r1, .int .i64 r2]) ∧ Below w.heap.size w w' := by
  unfold impl_Shown.f at h
  by_cases hc : 0 ≤ a0 ∧ a0 ≤ 1000 ∧ 0 ≤ a1 ∧ a1 ≤ 65535 ∧ l2.length ≤ 1000000
  · rw [if_pos hc] at h
    obtain ⟨h0, h1, h2, h3, h4⟩ := hc
    obtain ⟨n, rfl⟩ := Int.eq_ofNat_of_zero_le h0
    rw [Int.toNat_natCast] at h
    have h := Option.some.inj h
    have hk := foldl_kept n a1 h2 l2 _ (kept_start n)
    have HC := Lib.hid (Kd.reads_of_C (d := (0 : Int)) (h1 := fun _ => rfl) hr2)
    have HM := Lib.hid (manager_calls n a1 w (by omega) h2 h3)
    clear hr2
    go_enter Try.func31, Try.ntmps31
    go_wp2_with (go_at_call 58; refine HM.out.mono ?_; rintro e w1 ⟨m, q, A, rfl, hm, hq, hqm, hwq, hb⟩)
    go_loopw [18] (fun vi wr => ∃ i : Nat, i ≤ l2.length ∧ vi = .int .i64 i ∧ Rec wr m (mgr ((l2.take i).foldl (pick1 n a1) (-1, 0)).1 (.slice A n n) a1 85 q ((l2.take i).foldl (pick1 n a1) (-1, 0)).2) 131 ∧ One wr q (.slice A n n) 124 ∧ Below w.heap.size w wr) (fun vi _ => l2.length - (intOf vi).toNat)
    case atStart => exact ⟨0, Nat.zero_le _, rfl, hm, hq, hb⟩
    case round =>
      obtain ⟨i, hi, rfl, hmi, hqi, hbi⟩ := hrel
      have hki := foldl_kept n a1 h2 (l2.take i) _ (kept_start n)
      by_cases hlt : i < l2.length
      · obtain ⟨_, _, hA⟩ := HC.out
        obtain ⟨ad, rfl, hcell⟩ := hA (by omega)
        have cx := pw_cell_below hbi (hcell i hlt)
        have ht : l2.take (i + 1) = l2.take i ++ [l2.getD i 0] := by rw [List.take_succ_eq_append_getElem hlt]; simp [List.getD, List.getElem?_eq_getElem hlt]
        have HT := Lib.hid (show (l2.take (i + 1)).foldl (pick1 n a1) (-1, 0) = pick1 n a1 ((l2.take i).foldl (pick1 n a1) (-1, 0)) (l2.getD i 0) by rw [ht, List.foldl_append]; rfl)
        clear ht hcell hA
        generalize (l2.take i).foldl (pick1 n a1) (-1, 0) = p at *
        generalize l2.getD i 0 = x at *
        obtain ⟨sel, sc⟩ := p
        obtain ⟨k1, k2, k3, k4⟩ := hki
        have HX := Lib.hid (choose_calls m 85 q n n A a1 (hands_manager _ _ _ _) enter_manager hqm sel sc x wr (by omega) ⟨h2, h3⟩ ⟨k1, by omega⟩ ⟨k3, by omega⟩ hmi hqi)
        clear h hk
        go_wp2_with (go_at_call 59; refine HX.out.mono ?_; rintro e w2 ⟨rfl, hm2, b2⟩)
        go_roundw
        case rel => exact ⟨i + 1, by omega, by go_num, by rw [HT.out]; exact hm2, hqi.below b2 hqm, hbi.trans (b2.mono (by omega))⟩
        case measure => simp only [intOf]; omega
      · have hE : l2.take i = l2 := List.take_of_length_le (by omega)
        rw [hE, h] at hmi
        have HP := Lib.hid (Place_calls m 85 q a1 r1 r2 (.slice A n n) wr hmi)
        clear h hk hE
        go_wp2_with (go_at_call 60; refine HP.out.mono ?_; rintro e w2 ⟨rfl, b2⟩)
        go_ret2
        exact ⟨rfl, hbi.trans (b2.mono (by omega))⟩
  · rw [if_neg hc] at h
    cases h
end Go.Proofs.Ythkblefeifdhaaa.H
