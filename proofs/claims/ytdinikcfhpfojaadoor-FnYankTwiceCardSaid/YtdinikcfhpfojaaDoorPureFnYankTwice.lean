/- What was taken out is put in as often as that is asked for: the pure statement behind the law FnYankTwice; no condition. -/
import Derived.Test.YtdinikcfhpfojaaDoorPFnYankTwicex2
import Derived.Test.YtdinikcfhpfojaaDoorHSteps
namespace Go.Proofs.YtdinikcfhpfojaaDoor.Pure
open Go.RowKit Go.Proofs.YtdinikcfhpfojaaDoor.PFnYankTwice Go.Proofs.YtdinikcfhpfojaaDoorW.PrintWords Go.Proofs.YtdinikcfhpfojaaDoorW.PrintLast Go.Proofs.YtdinikcfhpfojaaDoor.X Go.Proofs.YtdinikcfhpfojaaDoor.R Go.Proofs.YtdinikcfhpfojaaDoor.H
set_option linter.unusedVariables false

theorem ascii_loop (s : ByteArray) (hs : s.size ≤ 2147483647) (d : Nat) : ∀ i : Nat, i + d = s.size →
    ∃ b, Ev (fun k => laws_ascii9.l0 k s (s.size : Int) (i : Int)) b ∧ (b = true → s.size ≤ 300 ∧ ∀ j (hj : j < s.size), i ≤ j → (s.data.toList[j]'(by rw [dlen]; exact hj)).toNat < 128) := by
  induction d with
  | zero =>
    intro i hi
    exact ⟨decide ((s.size : Int) ≤ 300), Ev.step (fun k => by rw [laws_ascii9.l0]) (ev_ifn (by omega) (Ev.now _)), fun h => ⟨by have := of_decide_eq_true h; omega, fun j hj h => by omega⟩⟩
  | succ d ih =>
    intro i hi
    obtain ⟨b, hb, hq⟩ := ih (i + 1) (by omega)
    rw [show ((i + 1 : Nat) : Int) = (i : Int) + 1 from by omega] at hb
    have e1 := bt_nat s i (by omega)
    by_cases h : (128 : Int) ≤ bt s (i : Int)
    · exact ⟨false, Ev.step (fun k => by rw [laws_ascii9.l0]) (ev_ifp (by omega) (ev_ifp (by omega) (ev_ifp (by omega) (ev_ifp h (Ev.now _))))), fun h => by cases h⟩
    · refine ⟨b, Ev.step (fun k => by rw [laws_ascii9.l0, w64 (x := (i : Int) + 1) (by omega) (by omega)]) (ev_ifp (by omega) (ev_ifp (by omega) (ev_ifp (by omega) (ev_ifn h hb)))), fun hbt => ⟨(hq hbt).1, fun j hj hij => ?_⟩⟩
      rcases Nat.eq_or_lt_of_le hij with rfl | hlt
      · omega
      · exact (hq hbt).2 j hj hlt
theorem ascii_tells (s : ByteArray) (hs : s.size ≤ 2147483647) : ∃ b, Ev (fun k => laws_ascii9.f k s) b ∧ (b = true → s.size ≤ 300 ∧ Asc s) := by
  obtain ⟨b, hb, hq⟩ := ascii_loop s hs s.size 0 (by omega)
  refine ⟨b, hb, fun h => ⟨(hq h).1, fun x hx => ?_⟩⟩
  obtain ⟨j, hj, rfl⟩ := List.getElem_of_mem hx
  exact (hq h).2 j (by rw [← dlen]; exact hj) (Nat.zero_le _)
theorem line_tells (s : ByteArray) (a : Int) (hs : s.size ≤ 2147483647) : ∃ b, Ev (fun k => laws_line9.f k s a) b ∧ (b = true → s.size ≤ 300 ∧ Asc s ∧ 0 ≤ a ∧ a ≤ s.size) := by
  obtain ⟨b, hb, hq⟩ := ascii_tells s hs
  unfold laws_line9.f
  cases b with
  | false => exact ⟨false, ev_bind hb (ev_ifn (by simp) (Ev.now _)), fun h => by cases h⟩
  | true =>
    by_cases h0 : a ≥ 0
    · exact ⟨decide (a ≤ (s.size : Int)), ev_bind hb (ev_ifp rfl (ev_ifp h0 (Ev.now _))), fun h => ⟨(hq rfl).1, (hq rfl).2, h0, of_decide_eq_true h⟩⟩
    · exact ⟨false, ev_bind hb (ev_ifp rfl (ev_ifn h0 (Ev.now _))), fun h => by cases h⟩

theorem FnYankTwice : laws_FnYankTwice.Pure := by
  intro t a ht ha
  refine Ev.rounds (r := true) ?_
  unfold laws_FnYankTwice.f
  by_cases hz : (t.size : Int) > 2147483647
  · have e : laws_zzFits11.f t a = some false := if_pos hz
    simp only [e, Option.bind_some]
    exact ev_ifn (by simp) (Ev.now _)
  have e : laws_zzFits11.f t a = some true := if_neg hz
  simp only [e, Option.bind_some]
  refine ev_ifp trivial ?_
  obtain ⟨b, hb, hq⟩ := line_tells t a (by omega)
  refine ev_bind hb ?_
  cases b with
  | false => exact ev_ifn (by simp) (Ev.now _)
  | true =>
    obtain ⟨h1, hasc, h2, h3⟩ := hq rfl
    refine ev_ifp rfl ?_
    by_cases h4 : (t.size : Int) > 100
    · exact ev_ifp h4 (Ev.now _)
    refine ev_ifn h4 ?_
    by_cases h5 : a = (t.size : Int)
    · exact ev_ifp h5 (Ev.now _)
    refine ev_ifn h5 ?_
    obtain ⟨i, rfl⟩ := Int.eq_ofNat_of_zero_le h2
    have hi : i < t.size := by omega
    have hl := ints_length t
    have hA : Asc (t ++ t.extract i t.size) := by
      intro x hx
      have : (t ++ t.extract i t.size).data.toList = t.data.toList ++ (t.extract i t.size).data.toList := by simp
      rw [this, List.mem_append] at hx
      rcases hx with hx | hx
      · exact hasc x hx
      · exact asc_extract hasc _ _ x hx
    have hI : ints (t ++ t.extract i t.size) = ints t ++ (ints t).drop i := by
      rw [ints_append, ints_extract, List.take_of_length_le (by rw [List.length_drop, hl]; omega)]
    have hd : ((ints t).drop i).length = t.size - i := by rw [List.length_drop, hl]
    have r1 : krun ⟨ints t, i, []⟩ [⟨15, ⟨#[]⟩, 0, false, false⟩, ⟨17, ⟨#[]⟩, 0, false, false⟩, ⟨17, ⟨#[]⟩, 0, false, false⟩] = some (⟨ints t ++ (ints t).drop i, t.size + (t.size - i), (ints t).drop i⟩, [-1, -1, -1]) := by
      have k1 : kyank ⟨(ints t).take i, i, (ints t).drop i⟩ = ⟨ints t, t.size, (ints t).drop i⟩ := by
        unfold kyank
        dsimp only
        rw [if_neg (by omega), List.take_take, Nat.min_self, List.drop_take, Nat.sub_self, List.take_zero, List.append_nil, List.take_append_drop, hd]
        congr 1; omega
      have k2 : kyank ⟨ints t, t.size, (ints t).drop i⟩ = ⟨ints t ++ (ints t).drop i, t.size + (t.size - i), (ints t).drop i⟩ := by
        unfold kyank
        dsimp only
        have d2 : (ints t).drop t.size = [] := List.drop_of_length_le (by omega)
        have d3 : (ints t).take t.size = ints t := List.take_of_length_le (by omega)
        rw [if_neg (by omega), d3, d2, List.append_nil, hd]
      have z : (⟨#[]⟩ : ByteArray).size ≤ 1000000 := by decide
      have t1 := step_15 (s := ⟨ints t, i, []⟩) (t := ⟨#[]⟩) (n := 0) (f := false) (b := false) ⟨by unfold KS.ok; simp; omega, z, by omega, by omega⟩
      have t2 := step_17 (s := ⟨(ints t).take i, i, (ints t).drop i⟩) (t := ⟨#[]⟩) (n := 0) (f := false) (b := false) ⟨by unfold KS.ok; dsimp only; rw [List.length_take, hd]; omega, z, by omega, by omega⟩
      have t3 := step_17 (s := ⟨ints t, t.size, (ints t).drop i⟩) (t := ⟨#[]⟩) (n := 0) (f := false) (b := false) ⟨by unfold KS.ok; dsimp only; rw [hd]; omega, z, by omega, by omega⟩
      rw [k1] at t2
      rw [k2] at t3
      exact krun_cons t1 (krun_cons t2 (krun_cons t3 (krun_nil _)))
    have hf : laws_after9.f t (i : Int) [(⟨15, ⟨#[]⟩, 0, false, false⟩ : S29), ⟨17, ⟨#[]⟩, 0, false, false⟩, ⟨17, ⟨#[]⟩, 0, false, false⟩] = some (t ++ t.extract i t.size, ((t.size + (t.size - i) : Nat) : Int), true) := by
      have := after_tells (l := [⟨15, ⟨#[]⟩, 0, false, false⟩, ⟨17, ⟨#[]⟩, 0, false, false⟩, ⟨17, ⟨#[]⟩, 0, false, false⟩]) (by simp) hasc (by omega) (by omega) r1 (by simp; omega)
      dsimp only at this
      rw [← hI, runesBytes_ints hA] at this
      exact this
    rw [hf]
    simp only [Option.bind_some]
    refine ev_ifp trivial (ev_ifp (by omega) (ev_ifp (by omega) ?_))
    have hsz : (t.extract i t.size).size = t.size - i := by simp
    rw [Int.toNat_natCast]
    refine ev_ifp (by omega) (ev_some ?_)
    rw [w64 (x := 2 * (t.size : Int)) (by omega) (by omega), w64 (x := 2 * (t.size : Int) - (i : Int)) (by omega) (by omega)]
    simp only [beq_self_eq_true, Bool.true_and, beq_iff_eq]
    omega
end Go.Proofs.YtdinikcfhpfojaaDoor.Pure
