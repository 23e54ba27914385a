/- A sign that is overwritten and then written back: the pure statement behind the law FnReplaceBack; no condition. -/
import Derived.Test.YtdinikcfhpfojaaDoorPFnReplaceBackx3
import Derived.Test.YtdinikcfhpfojaaDoorHSteps
namespace Go.Proofs.YtdinikcfhpfojaaDoor.Pure
open Go.RowKit Go.Proofs.YtdinikcfhpfojaaDoor.PFnReplaceBack Go.Proofs.YtdinikcfhpfojaaDoorW.PrintWords Go.Proofs.YtdinikcfhpfojaaDoorW.PrintLast Go.Proofs.YtdinikcfhpfojaaDoor.X Go.Proofs.YtdinikcfhpfojaaDoor.R Go.Proofs.YtdinikcfhpfojaaDoor.H
set_option linter.unusedVariables false
set_option linter.unusedSimpArgs false

theorem ascii_loop (s : ByteArray) (hs : s.size ≤ 2147483647) (d : Nat) : ∀ i : Nat, i + d = s.size →
    ∃ b, Ev (fun k => laws_ascii9.l0 k s (s.size : Int) (i : Int)) b ∧ (b = true → s.size ≤ 300 ∧ ∀ j (hj : j < s.size), i ≤ j → (s.data.toList[j]'(by rw [dlen]; exact hj)).toNat < 128) := by
  induction d with
  | zero =>
    intro i hi
    exact ⟨decide ((s.size : Int) ≤ 300), Ev.step (fun k => by rw [laws_ascii9.l0]) (ev_ifn (by omega) (Ev.now _)), fun h => ⟨by have := of_decide_eq_true h; omega, fun j hj h => by omega⟩⟩
  | succ d ih =>
    intro i hi
    obtain ⟨b, hb, hq⟩ := ih (i + 1) (by omega)
    rw [show ((i + 1 : Nat) : Int) = (i : Int) + 1 from by omega] at hb
    have e1 := bt_nat s i (by omega)
    by_cases h : (128 : Int) ≤ bt s (i : Int)
    · exact ⟨false, Ev.step (fun k => by rw [laws_ascii9.l0]) (ev_ifp (by omega) (ev_ifp (by omega) (ev_ifp (by omega) (ev_ifp h (Ev.now _))))), fun h => by cases h⟩
    · refine ⟨b, Ev.step (fun k => by rw [laws_ascii9.l0, w64 (x := (i : Int) + 1) (by omega) (by omega)]) (ev_ifp (by omega) (ev_ifp (by omega) (ev_ifp (by omega) (ev_ifn h hb)))), fun hbt => ⟨(hq hbt).1, fun j hj hij => ?_⟩⟩
      rcases Nat.eq_or_lt_of_le hij with rfl | hlt
      · omega
      · exact (hq hbt).2 j hj hlt
theorem ascii_tells (s : ByteArray) (hs : s.size ≤ 2147483647) : ∃ b, Ev (fun k => laws_ascii9.f k s) b ∧ (b = true → s.size ≤ 300 ∧ Asc s) := by
  obtain ⟨b, hb, hq⟩ := ascii_loop s hs s.size 0 (by omega)
  refine ⟨b, hb, fun h => ⟨(hq h).1, fun x hx => ?_⟩⟩
  obtain ⟨j, hj, rfl⟩ := List.getElem_of_mem hx
  exact (hq h).2 j (by rw [← dlen]; exact hj) (Nat.zero_le _)
theorem line_tells (s : ByteArray) (a : Int) (hs : s.size ≤ 2147483647) : ∃ b, Ev (fun k => laws_line9.f k s a) b ∧ (b = true → s.size ≤ 300 ∧ Asc s ∧ 0 ≤ a ∧ a ≤ s.size) := by
  obtain ⟨b, hb, hq⟩ := ascii_tells s hs
  unfold laws_line9.f
  cases b with
  | false => exact ⟨false, ev_bind hb (ev_ifn (by simp) (Ev.now _)), fun h => by cases h⟩
  | true =>
    by_cases h0 : a ≥ 0
    · exact ⟨decide (a ≤ (s.size : Int)), ev_bind hb (ev_ifp rfl (ev_ifp h0 (Ev.now _))), fun h => ⟨(hq rfl).1, (hq rfl).2, h0, of_decide_eq_true h⟩⟩
    · exact ⟨false, ev_bind hb (ev_ifp rfl (ev_ifn h0 (Ev.now _))), fun h => by cases h⟩
theorem short_tells (s : ByteArray) (a : Int) (hs : s.size ≤ 2147483647) : ∃ b, Ev (fun k => laws_short9.f k s a) b ∧ (b = true → s.size ≤ 100 ∧ Asc s ∧ 0 ≤ a ∧ a ≤ s.size) := by
  obtain ⟨b, hb, hq⟩ := line_tells s a hs
  unfold laws_short9.f
  cases b with
  | false => exact ⟨false, ev_bind hb (ev_ifn (by simp) (Ev.now _)), fun h => by cases h⟩
  | true => exact ⟨decide ((s.size : Int) ≤ 100), ev_bind hb (ev_ifp rfl (Ev.now _)), fun h => ⟨by have := of_decide_eq_true h; omega, (hq rfl).2⟩⟩

theorem str_one (c : Int) (hc0 : 0 ≤ c) (hc1 : c < 128) : Asc (strOfNums [c]) ∧ ints (strOfNums [c]) = [c] := by
  obtain ⟨m, rfl⟩ := Int.eq_ofNat_of_zero_le hc0
  have hm : m < 256 := by omega
  constructor
  · intro b hb
    simp [strOfNums] at hb
    subst hb
    simp [Nat.mod_eq_of_lt hm]
    omega
  · simp [ints, strOfNums, Nat.mod_eq_of_lt hm]
theorem FnReplaceBack : laws_FnReplaceBack.Pure := by
  intro t a c ht ha hc
  refine Ev.rounds (r := true) ?_
  have hcx : 0 ≤ c ∧ c ≤ 255 := by
    simp only [Lit.wf, Bool.and_eq_true, decide_eq_true_eq] at hc
    have e1 : IntKind.u8.min = 0 := rfl
    have e2 : IntKind.u8.max = 255 := rfl
    omega
  have j0 : ∀ b : Bool, (b = false → t.size ≤ 100 ∧ Asc t ∧ 0 ≤ a ∧ a < t.size ∧ c < 128) → Ev (fun k => laws_FnReplaceBack.j0 k c b t a) true := by
    intro b hb
    cases b with
    | true => exact Ev.step (fun k => by rw [laws_FnReplaceBack.j0]) (ev_ifp rfl (Ev.now _))
    | false =>
      obtain ⟨h1, hasc, h3, h4, h5⟩ := hb rfl
      obtain ⟨i, rfl⟩ := Int.eq_ofNat_of_zero_le h3
      have hi : i < t.size := by omega
      have hl := ints_length t
      obtain ⟨hs1, hs2⟩ := str_one c hcx.1 h5
      have hbt : bt t (i : Int) = (ints t)[i]'(by rw [hl]; exact hi) := bt_ints t i hi
      have hb0 : 0 ≤ bt t (i : Int) ∧ bt t (i : Int) < 128 := by rw [hbt]; exact asc_ints hasc _ (List.getElem_mem _)
      have z : (⟨#[]⟩ : ByteArray).size ≤ 1000000 := by decide
      have hB : ints ((t.extract 0 i ++ strOfNums [c]) ++ t.extract (i + 1) t.size) = (ints t).set i c := by
        rw [ints_append, ints_append, ints_extract, ints_extract, hs2, List.drop_zero, Nat.sub_zero, List.set_eq_take_append_cons_drop, if_pos (by omega), List.take_of_length_le (l := (ints t).drop (i + 1)) (by rw [List.length_drop, hl]; omega)]
        simp
      have hA : Asc ((t.extract 0 i ++ strOfNums [c]) ++ t.extract (i + 1) t.size) := by
        intro x hx
        have : ((t.extract 0 i ++ strOfNums [c]) ++ t.extract (i + 1) t.size).data.toList = ((t.extract 0 i).data.toList ++ (strOfNums [c]).data.toList) ++ (t.extract (i + 1) t.size).data.toList := by simp
        rw [this, List.mem_append, List.mem_append] at hx
        rcases hx with (hx | hx) | hx
        · exact asc_extract hasc _ _ x hx
        · exact hs1 x hx
        · exact asc_extract hasc _ _ x hx
      have hset : ((ints t).set i c).set i (bt t (i : Int)) = ints t := by rw [List.set_set, hbt, List.set_getElem_self]
      have t1 := step_8 (s := ⟨ints t, i, []⟩) (t := ⟨#[]⟩) (n := c) (f := false) (b := false) ⟨by unfold KS.ok; simp; omega, z, by omega, by omega⟩ (by dsimp only; omega)
      have t2 := step_8 (s := ⟨(ints t).set i c, i, []⟩) (t := ⟨#[]⟩) (n := bt t (i : Int)) (f := false) (b := false) ⟨by unfold KS.ok; simp; omega, z, by omega, by omega⟩ (by dsimp only; rw [List.length_set]; omega)
      dsimp only at t1 t2
      rw [hset] at t2
      have f1 : laws_after9.f t (i : Int) [(⟨8, ⟨#[]⟩, c, false, false⟩ : S29)] = some ((t.extract 0 i ++ strOfNums [c]) ++ t.extract (i + 1) t.size, (i : Int), true) := by
        have := after_tells (l := [⟨8, ⟨#[]⟩, c, false, false⟩]) (by simp) hasc (by omega) (by omega) (krun_cons t1 (krun_nil _)) (by simp; omega)
        dsimp only at this
        rw [← hB, runesBytes_ints hA] at this
        exact this
      have f2 : laws_after9.f t (i : Int) [(⟨8, ⟨#[]⟩, c, false, false⟩ : S29), ⟨8, ⟨#[]⟩, bt t (i : Int), false, false⟩] = some (t, (i : Int), true) := by
        have := after_tells (l := [⟨8, ⟨#[]⟩, c, false, false⟩, ⟨8, ⟨#[]⟩, bt t (i : Int), false, false⟩]) (by simp) hasc (by omega) (by omega) (krun_cons t1 (krun_cons t2 (krun_nil _))) (by simp; omega)
        dsimp only at this
        rw [runesBytes_ints hasc] at this
        exact this
      have z1 : (t.extract 0 i).size = i := by simp; omega
      have z2 : (t.extract (i + 1) t.size).size = t.size - (i + 1) := by simp
      have z3 : (strOfNums [c]).size = 1 := by rw [← ints_length, hs2]; rfl
      refine Ev.step (fun k => by rw [laws_FnReplaceBack.j0, w64 (x := c) (by omega) (by omega), w64 (x := bt t (i : Int)) (by omega) (by omega), w64 (x := (i : Int) + 1) (by omega) (by omega), f1, f2]) (ev_ifn (by simp) ?_)
      simp only [Option.bind_some]
      have ei : ((i : Int) + 1).toNat = i + 1 := by omega
      rw [Int.toNat_natCast, ei]
      refine ev_ifp (by omega) (ev_ifp (by omega) (ev_ifp trivial (ev_ifp trivial (ev_ifp (by omega) (ev_ifp (by omega) (ev_ifp (by omega) (ev_ifp (by omega) (ev_ifp ?_ (ev_ifp (by simp) (ev_some (by simp)))))))))))
      rw [ByteArray.size_append]
      omega
  unfold laws_FnReplaceBack.f
  by_cases hz : (t.size : Int) > 2147483647
  · have e : laws_zzFits11.f t a = some false := if_pos hz
    simp only [e, Option.bind_some]
    exact ev_ifn (by simp) (Ev.now _)
  have e : laws_zzFits11.f t a = some true := if_neg hz
  simp only [e, Option.bind_some]
  refine ev_ifp trivial ?_
  obtain ⟨b, hb, hq⟩ := short_tells t a (by omega)
  refine ev_bind hb ?_
  cases b with
  | false => exact ev_ifn (by simp) (j0 true (by simp))
  | true =>
    obtain ⟨h1, h2, h3, h4⟩ := hq rfl
    refine ev_ifp rfl ?_
    by_cases g1 : a = (t.size : Int)
    · exact ev_ifp g1 (j0 true (by simp))
    refine ev_ifn g1 ?_
    by_cases g2 : c = 0
    · exact ev_ifp g2 (j0 true (by simp))
    refine ev_ifn g2 ?_
    by_cases g3 : c ≥ 128
    · exact ev_ifp g3 (j0 true (by simp))
    exact ev_ifn g3 (ev_ifp h3 (ev_ifp (by omega) (j0 _ (fun hd => ⟨h1, h2, h3, by omega, by omega⟩))))
end Go.Proofs.YtdinikcfhpfojaaDoor.Pure
