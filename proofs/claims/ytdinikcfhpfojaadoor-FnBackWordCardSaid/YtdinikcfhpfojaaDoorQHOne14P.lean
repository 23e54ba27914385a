/- Whether the step that takes the word before the cursor does what the reference does (laws.one9, for the step 14): it does, for all lines; the contract by which the law takes it. -/
import Derived.Test.YtdinikcfhpfojaaDoorQHOne9P
import Derived.Test.YtdinikcfhpfojaaDoorQHOne14
namespace Go.Proofs.YtdinikcfhpfojaaDoor.HB
open Go.RowKit Go.Proofs.YtdinikcfhpfojaaDoorW.PrintWords Go.Proofs.YtdinikcfhpfojaaDoorW.PrintLast Go.Proofs.YtdinikcfhpfojaaDoor.R Go.Proofs.YtdinikcfhpfojaaDoor.X Go.Proofs.YtdinikcfhpfojaaDoor.PDo Go.Proofs.YtdinikcfhpfojaaDoor.H
set_option linter.unusedVariables false
set_option linter.unusedSimpArgs false
theorem prev_le (l : List Int) : ∀ i, prevW l i ≤ i
  | 0 => by simp [prevW]
  | i + 1 => by
    have := prev_le l i
    unfold prevW
    split <;> omega
theorem do_14 (l : List Int) (n : Nat) (hl : l.length ≤ 1000) (hn : n ≤ l.length) (hp : prevW l (n - 1) = 0) : Tells l n 14 (-1) (n : Int) true := by
  refine ⟨?_, fun h => by cases h⟩
  have hb : Ev (fun k => spec_Editor_before.f k l (n : Int) [] false false (n : Int)) (-1, (n : Int), false, false) := by
    unfold spec_Editor_before.f
    rw [w64 (x := (n : Int) - 1) (by omega) (by omega)]
    by_cases h0 : n = 0
    · subst h0
      exact Ev.step (fun k => by rw [spec_Editor_before.l0]) (ev_ifn (by omega) (ev_some (by simp)))
    · rw [show (n : Int) - 1 = ((n - 1 : Nat) : Int) by omega]
      have := before_loop l [] (n : Int) false false hl (n - 1) (by omega)
      rw [if_pos hp] at this
      exact this
  unfold spec_Editor_Do.f
  exact ev_ifn (by simp) (Ev.step (fun k => by rw [spec_Editor_Do.j0]; unfold spec_Editor_more.f; rfl) (ev_ifn (by simp) (ev_ifn (by omega) (ev_ifn (by omega) (ev_ifn (by omega) (ev_ifn (by omega) (ev_ifn (by omega) (ev_ifn (by omega) (ev_ifn (by omega) (ev_ifn (by omega) (ev_ifn (by omega) (ev_ifn (by omega) (ev_ifn (by omega) (ev_bind (a := (-1, (n : Int), false, true)) (ev_ifn (by omega) (ev_ifn (by omega) (ev_ifp rfl (ev_bind hb (ev_ifp (by show (-1 : Int) < 0; omega) (Ev.now _)))))) (Ev.now _)))))))))))))))
/-- For the step 14. -/
def laws_one9.f (t : ByteArray) (a op : Int) (text : ByteArray) (n : Int) (flag back : Bool) : Option Bool :=
  if t.size ≤ 2147483647 ∧ op = 14 ∧ text = ⟨#[]⟩ ∧ n = 0 ∧ flag = false ∧ back = false then some true else none
theorem back_tells (t : ByteArray) (a : Int) (w : World) (ht : t.size ≤ 2147483647) :
    Calls Tryd.prog 19 #[.agg #[.string t, .int .i64 a], .agg #[.int .i64 14, .string ⟨#[]⟩, .int .i64 0, .bool false, .bool false]] w fun e w' => e = .returned (.bool true) ∧ Below w.heap.size w w' := by
  obtain ⟨b, hb, hq⟩ := line_tells t a ht
  cases b with
  | false =>
    obtain ⟨k, hk⟩ := hb.rounds
    exact one9_off k t a 14 w hk
  | true =>
    obtain ⟨g0, hasc, g1, g2⟩ := hq rfl
    obtain ⟨n, rfl⟩ := Int.eq_ofNat_of_zero_le g1
    have hr := runesOf_asc hasc
    have hil := ints_length t
    have hk := key_tells 14 (by omega)
    obtain ⟨K1, h1⟩ := hb
    obtain ⟨K2, h2⟩ := hk
    by_cases hp : prevW (ints t) (n - 1) = 0
    · obtain ⟨hD, _⟩ := do_14 (ints t) n (by omega) (by omega) hp
      obtain ⟨K3, h3⟩ := hD
      exact one9_on (max K1 (max K2 K3)) t (n : Int) 14 (-1) (n : Int) true w (by omega) (by omega) (by rw [hr, hil]; omega) (h1 _ (by omega)) (h2 _ (by omega)) (by rw [hr]; exact h3 _ (by omega)) (fun ho => by cases ho)
    · have hle := prev_le (ints t) (n - 1)
      have hp0 : 0 < prevW (ints t) (n - 1) := by omega
      have hpn : prevW (ints t) (n - 1) < n := by omega
      refine one9_14 (max K1 K2) (prevW (ints t) (n - 1)) t n w (by omega) (by rw [hr, hil]; omega) (by rw [hr, hil]; omega) (by rw [hr]) hp0 hpn (h1 _ (by omega)) (h2 _ (by omega)) ?_
      have e20 : step5 ⟨[], 0, []⟩ ⟨20, t, (n : Int), false, false⟩ = some (⟨ints t, n, []⟩, -1) := by
        rw [step_20 ⟨by unfold KS.ok; simp, by omega, by omega, by omega⟩ (by rw [hr, hil]; omega), hr, Int.toNat_natCast]
      show onceF t (n : Int) ⟨14, ⟨#[]⟩, 0, false, false⟩ = _
      unfold onceF
      rw [krun_cons e20 (krun_cons (step_14 (s := ⟨ints t, n, []⟩) (kok (ints t) n (by omega)) ⟨hp0, hpn⟩) (krun_nil _))]
      dsimp only [kback]
      rw [if_pos (by simp; omega), hr]
theorem laws_one9.calls (t : ByteArray) (a op : Int) (text : ByteArray) (n : Int) (flag back r : Bool) (w : World) (h : laws_one9.f t a op text n flag back = some r) :
    Calls Tryd.prog 19 #[.agg #[.string t, .int .i64 a], .agg #[.int .i64 op, .string text, .int .i64 n, .bool flag, .bool back]] w fun e w' => e = .returned (.bool r) ∧ Below w.heap.size w w' := by
  unfold laws_one9.f at h
  by_cases hg : t.size ≤ 2147483647 ∧ op = 14 ∧ text = ⟨#[]⟩ ∧ n = 0 ∧ flag = false ∧ back = false
  · rw [if_pos hg] at h
    obtain rfl := Option.some.inj h
    obtain ⟨g0, rfl, rfl, rfl, rfl, rfl⟩ := hg
    exact back_tells t a w g0
  · rw [if_neg hg] at h; cases h
end Go.Proofs.YtdinikcfhpfojaaDoor.HB
