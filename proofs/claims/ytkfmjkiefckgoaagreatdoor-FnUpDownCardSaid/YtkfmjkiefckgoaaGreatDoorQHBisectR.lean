/- How many of some ascending numbers are at most another one (impl.BisectRight, over sort.Search): the contract by which the law FnBisect takes it; of numbers that do not ascend nothing is said. -/
import Derived.Test.YtkfmjkiefckgoaaGreatDoorQHBase
namespace Go.Proofs.YtkfmjkiefckgoaaGreatDoor.H
open Go.RowKit Go.Proofs.YtkfmjkiefckgoaaGreatDoorW.PrintWords Go.Proofs.YtkfmjkiefckgoaaGreatDoorW.PrintLast
set_option linter.unusedVariables false
set_option linter.unusedSimpArgs false
def cntLe (l : List Int) (v : Int) : Nat := (l.filter fun x => decide (x ≤ v)).length
/-- The first cntLe numbers are at most v, the others are above it. -/
def Cut (l : List Int) (v : Int) : Prop := ∀ h, h < l.length → (l.getD h 0 ≤ v ↔ h < cntLe l v)
instance (l : List Int) (v : Int) : Decidable (Cut l v) := inferInstanceAs (Decidable (∀ h, h < l.length → (l.getD h 0 ≤ v ↔ h < cntLe l v)))
def bisect_Right.f (l0 : List Int) (a1 : Int) : Option Int := if Cut l0 a1 ∧ l0.length ≤ 1000000 then some (cntLe l0 a1 : Int) else none
theorem cntLe_le (l : List Int) (v : Int) : cntLe l v ≤ l.length := List.length_filter_le _ _
set_option maxHeartbeats 1000000 in
theorem bisect_closure (ad : Addr) (n c : Nat) (v x h : Int) (ps pv : Nat) (w : World) (h0 : 0 ≤ h) (h1 : h < n) (hn : n ≤ 1000000)
    (cs : w.cell? ⟨ps, 0, none⟩ = some (.slice (some ad) n c)) (cv : w.cell? ⟨pv, 0, none⟩ = some (.int .i64 v)) (cx : w.cell? (ad.add h.toNat) = some (.int .i64 x)) :
    Calls Tryz.prog 125 #[.int .i64 h, .pointer (some ⟨ps, 0, none⟩), .pointer (some ⟨pv, 0, none⟩)] w fun e w' => e = .returned (.bool (decide (v < x))) ∧ ∃ k, w' = w.drewN k := by
  go_enter Tryz.func125, Tryz.ntmps125
  go_wp2
  go_quiet (fail)
  go_wp2
  go_ret
  exact ⟨rfl, _, rfl⟩
theorem enter_bisect (args : Array Value) (w : World) : (callFunc 125 args).run Tryz.prog w = .ok (.enter 125 args) w :=
  enters (P := Tryz.prog) Tryz.func125 (by kernel_rfl) rfl args w
set_option maxHeartbeats 2000000 in
theorem search_calls (l : List Int) (v : Int) (A : Option Addr) (c : Nat) (ps pv : Nat) (w : World) (hl : l.length ≤ 1000000) (hcut : Cut l v)
    (cs : w.cell? ⟨ps, 0, none⟩ = some (.slice A l.length c)) (cv : w.cell? ⟨pv, 0, none⟩ = some (.int .i64 v)) (hA : 0 < l.length → ∃ ad, A = some ad ∧ ∀ j, j < l.length → w.cell? (ad.add j) = some (.int .i64 (l.getD j 0))) :
    Calls Tryz.prog 124 #[.int .i64 l.length, .func (.func 125) #[] #[.pointer (some ⟨ps, 0, none⟩), .pointer (some ⟨pv, 0, none⟩)]] w fun e w' => e = .returned (.int .i64 (cntLe l v)) ∧ ∃ k, w' = w.drewN k := by
  have hle := cntLe_le l v
  have HC := Lib.hid hcut
  have HA := Lib.hid hA
  clear hcut hA
  have hen := enter_bisect
  go_enter Tryz.func124, Tryz.ntmps124
  go_wp2
  go_loopw [5, 6] (fun vi vj wr => ∃ i j : Nat, ∃ k, i ≤ cntLe l v ∧ cntLe l v ≤ j ∧ j ≤ l.length ∧ vi = .int .i64 i ∧ vj = .int .i64 j ∧ wr = w.drewN k) (fun vi vj _ => (intOf vj).toNat - (intOf vi).toNat)
  case atStart => exact ⟨0, l.length, 0, by omega, hle, by omega, rfl, rfl, rfl⟩
  case round =>
    obtain ⟨i, j, k, hi, hj, hjl, rfl, rfl, rfl⟩ := hrel
    by_cases hlt : i < j
    · obtain ⟨ad, rfl, hcell⟩ := HA.out (by omega)
      have cx := hcell ((i + j) / 2) (by omega)
      have HK := HC.out ((i + j) / 2) (by omega)
      clear hcell HA
      generalize l.getD ((i + j) / 2) 0 = x at cx HK
      have HEM := Lib.hid (show ((i : Int) + (j : Int)) / 2 = (((i + j) / 2 : Nat) : Int) from by omega)
      have H1 : (i + j) / 2 < l.length := by omega
      have H2 : i ≤ (i + j) / 2 := by omega
      have H3 : (i + j) / 2 < j := by omega
      by_cases hx : v < x
      · have hd : decide (v < x) = true := decide_eq_true hx
        have hm : cntLe l v ≤ (i + j) / 2 := by
          rcases Nat.lt_or_ge ((i + j) / 2) (cntLe l v) with h | h
          · have := HK.2 h; omega
          · exact h
        have HM := Lib.hid hm
        clear hx HK hm
        go_wp2_with (go_at_call 125; rw [HEM.out]; refine (bisect_closure ad l.length c v x (((i + j) / 2 : Nat) : Int) ps pv (w.drewN k) (by omega) (by omega) hl cs cv (by rw [Int.toNat_natCast]; exact cx)).mono ?_; rintro e w' ⟨rfl, k2, rfl⟩)
        go_roundw
        case rel => exact ⟨i, (i + j) / 2, k + k2, by omega, HM.out, by omega, rfl, by go_num, rfl⟩
        case measure => simp only [intOf]; omega
      · have hd : decide (v < x) = false := decide_eq_false hx
        have hm : (i + j) / 2 < cntLe l v := HK.1 (by omega)
        have HM := Lib.hid hm
        clear hx HK hm
        go_wp2_with (go_at_call 125; rw [HEM.out]; refine (bisect_closure ad l.length c v x (((i + j) / 2 : Nat) : Int) ps pv (w.drewN k) (by omega) (by omega) hl cs cv (by rw [Int.toNat_natCast]; exact cx)).mono ?_; rintro e w' ⟨rfl, k2, rfl⟩)
        go_roundw
        case rel => exact ⟨(i + j) / 2 + 1, j, k + k2, HM.out, by omega, by omega, by go_num, rfl, rfl⟩
        case measure => simp only [intOf]; omega
    · have he : i = cntLe l v := by omega
      have HE := Lib.hid he
      clear he
      go_wp2
      go_ret
      exact ⟨by rw [← HE.out]; rfl, k, rfl⟩
set_option maxHeartbeats 1000000 in
theorem bisect_range (l : List Int) (v : Int) (A : Option Addr) (c : Nat) (w : World) (hl : l.length ≤ 1000000) (hc : l.length ≤ c) (hcut : Cut l v)
    (hA : 0 < l.length → ∃ ad, A = some ad ∧ ∀ j, j < l.length → w.cell? (ad.add j) = some (.int .i64 (l.getD j 0))) :
    Calls Tryz.prog 117 #[.slice A l.length c, .int .i64 v, .int .i64 0, .int .i64 l.length] w fun e w' => e = .returned (.int .i64 (cntLe l v)) ∧ Below w.heap.size w w' := by
  have HC := Lib.hid hcut
  have HA := Lib.hid hA
  clear hcut hA
  have hmf := @made_func Tryz.prog
  go_enter Tryz.func117, Tryz.ntmps117
  go_wp2_with (fail)
  have p0 := (One.new w (.int .i64 v) 3).alloc (.cells #[.slice A l.length c] 87)
  have hb2 : Below w.heap.size w ((w.alloc (.cells #[.int .i64 v] 3)).alloc (.cells #[.slice A l.length c] 87)) := ((Below.refl _ _).alloc (Nat.le_refl _) _).alloc (by simp) _
  refine (search_calls l v A c (w.heap.size + 1) w.heap.size _ hl HC.out (by simp) p0.cell (fun h => ?_)).mono ?_
  · obtain ⟨ad, rfl, hcell⟩ := HA.out h
    exact ⟨ad, rfl, fun j hj => pw_cell_below hb2 (hcell j hj)⟩
  · rintro e w' ⟨rfl, k, rfl⟩
    go_wp2
    go_ret
    exact ⟨rfl, pw_below_drewN hb2 k⟩
set_option maxHeartbeats 1000000 in
theorem bisect_Right.calls (A0 : Option Addr) (c0 : Nat) (l0 : List Int) (a1 r : Int) (w : World) (hr0 : Kd.C (Kd.int .i64) w A0 l0.length l0) (hc0 : l0.length ≤ c0) (h : bisect_Right.f l0 a1 = some r) :
    Calls Tryz.prog 91 #[.slice A0 l0.length c0, .int .i64 a1] w fun e w' => e = .returned (.int .i64 r) ∧ Below w.heap.size w w' := by
  unfold bisect_Right.f at h
  by_cases hc : Cut l0 a1 ∧ l0.length ≤ 1000000
  · rw [if_pos hc] at h
    obtain rfl := Option.some.inj h
    obtain ⟨hcut, hl⟩ := hc
    obtain ⟨_, _, hA⟩ := Kd.reads_of_C (d := (0 : Int)) (h1 := fun _ => rfl) hr0
    have HR := Lib.hid (bisect_range l0 a1 A0 c0 w hl hc0 hcut hA)
    clear h hcut hA hr0
    go_enter Tryz.func91, Tryz.ntmps91
    go_wp2_with (go_at_call 117; refine HR.out.mono ?_; rintro e w' ⟨rfl, hb⟩)
    all_goals try go_wp2
    go_ret
    exact ⟨rfl, hb⟩
  · rw [if_neg hc] at h
    cases h
end Go.Proofs.YtkfmjkiefckgoaaGreatDoor.H
