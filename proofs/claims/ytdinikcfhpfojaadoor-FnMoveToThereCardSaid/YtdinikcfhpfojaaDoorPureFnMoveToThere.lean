/- Where a step to a sign has come, this sign stands, and none between: the pure statement behind the law FnMoveToThere; no condition. -/
import Derived.Test.YtdinikcfhpfojaaDoorPFnMoveToTherex3
import Derived.Test.YtdinikcfhpfojaaDoorHSteps
namespace Go.Proofs.YtdinikcfhpfojaaDoor.Pure
open Go.RowKit Go.Proofs.YtdinikcfhpfojaaDoor.PFnMoveToThere Go.Proofs.YtdinikcfhpfojaaDoorW.PrintWords Go.Proofs.YtdinikcfhpfojaaDoorW.PrintLast Go.Proofs.YtdinikcfhpfojaaDoor.X Go.Proofs.YtdinikcfhpfojaaDoor.R Go.Proofs.YtdinikcfhpfojaaDoor.H
set_option linter.unusedVariables false
set_option linter.unusedSimpArgs false

theorem ascii_loop (s : ByteArray) (hs : s.size ≤ 2147483647) (d : Nat) : ∀ i : Nat, i + d = s.size →
    ∃ b, Ev (fun k => laws_ascii9.l0 k s (s.size : Int) (i : Int)) b ∧ (b = true → s.size ≤ 300 ∧ ∀ j (hj : j < s.size), i ≤ j → (s.data.toList[j]'(by rw [dlen]; exact hj)).toNat < 128) := by
  induction d with
  | zero =>
    intro i hi
    exact ⟨decide ((s.size : Int) ≤ 300), Ev.step (fun k => by rw [laws_ascii9.l0]) (ev_ifn (by omega) (Ev.now _)), fun h => ⟨by have := of_decide_eq_true h; omega, fun j hj h => by omega⟩⟩
  | succ d ih =>
    intro i hi
    obtain ⟨b, hb, hq⟩ := ih (i + 1) (by omega)
    rw [show ((i + 1 : Nat) : Int) = (i : Int) + 1 from by omega] at hb
    have e1 := bt_nat s i (by omega)
    by_cases h : (128 : Int) ≤ bt s (i : Int)
    · exact ⟨false, Ev.step (fun k => by rw [laws_ascii9.l0]) (ev_ifp (by omega) (ev_ifp (by omega) (ev_ifp (by omega) (ev_ifp h (Ev.now _))))), fun h => by cases h⟩
    · refine ⟨b, Ev.step (fun k => by rw [laws_ascii9.l0, w64 (x := (i : Int) + 1) (by omega) (by omega)]) (ev_ifp (by omega) (ev_ifp (by omega) (ev_ifp (by omega) (ev_ifn h hb)))), fun hbt => ⟨(hq hbt).1, fun j hj hij => ?_⟩⟩
      rcases Nat.eq_or_lt_of_le hij with rfl | hlt
      · omega
      · exact (hq hbt).2 j hj hlt
theorem ascii_tells (s : ByteArray) (hs : s.size ≤ 2147483647) : ∃ b, Ev (fun k => laws_ascii9.f k s) b ∧ (b = true → s.size ≤ 300 ∧ Asc s) := by
  obtain ⟨b, hb, hq⟩ := ascii_loop s hs s.size 0 (by omega)
  refine ⟨b, hb, fun h => ⟨(hq h).1, fun x hx => ?_⟩⟩
  obtain ⟨j, hj, rfl⟩ := List.getElem_of_mem hx
  exact (hq h).2 j (by rw [← dlen]; exact hj) (Nat.zero_le _)
theorem line_tells (s : ByteArray) (a : Int) (hs : s.size ≤ 2147483647) : ∃ b, Ev (fun k => laws_line9.f k s a) b ∧ (b = true → s.size ≤ 300 ∧ Asc s ∧ 0 ≤ a ∧ a ≤ s.size) := by
  obtain ⟨b, hb, hq⟩ := ascii_tells s hs
  unfold laws_line9.f
  cases b with
  | false => exact ⟨false, ev_bind hb (ev_ifn (by simp) (Ev.now _)), fun h => by cases h⟩
  | true =>
    by_cases h0 : a ≥ 0
    · exact ⟨decide (a ≤ (s.size : Int)), ev_bind hb (ev_ifp rfl (ev_ifp h0 (Ev.now _))), fun h => ⟨(hq rfl).1, (hq rfl).2, h0, of_decide_eq_true h⟩⟩
    · exact ⟨false, ev_bind hb (ev_ifp rfl (ev_ifn h0 (Ev.now _))), fun h => by cases h⟩
theorem short_tells (s : ByteArray) (a : Int) (hs : s.size ≤ 2147483647) : ∃ b, Ev (fun k => laws_short9.f k s a) b ∧ (b = true → s.size ≤ 100 ∧ Asc s ∧ 0 ≤ a ∧ a ≤ s.size) := by
  obtain ⟨b, hb, hq⟩ := line_tells s a hs
  unfold laws_short9.f
  cases b with
  | false => exact ⟨false, ev_bind hb (ev_ifn (by simp) (Ev.now _)), fun h => by cases h⟩
  | true => exact ⟨decide ((s.size : Int) ≤ 100), ev_bind hb (ev_ifp rfl (Ev.now _)), fun h => ⟨by have := of_decide_eq_true h; omega, (hq rfl).2⟩⟩

theorem findF_some (l : List Int) (c : Int) : ∀ d i j, findF l c d i = some j → l.getD j 0 = c ∧ ∀ k, i ≤ k → k < j → l.getD k 0 ≠ c
  | 0, i, j, h => by simp [findF] at h
  | d + 1, i, j, h => by
    unfold findF at h
    by_cases hx : l.getD i 0 = c
    · rw [if_pos hx] at h
      injection h with h; subst h
      exact ⟨hx, fun k h1 h2 => by omega⟩
    · rw [if_neg hx] at h
      obtain ⟨h1, h2⟩ := findF_some l c d (i + 1) j h
      refine ⟨h1, fun k h3 h4 => ?_⟩
      rcases Nat.eq_or_lt_of_le h3 with rfl | h5
      · exact hx
      · exact h2 k h5 h4
theorem findF_none (l : List Int) (c : Int) : ∀ d i, findF l c d i = none ↔ ∀ k, i ≤ k → k < i + d → l.getD k 0 ≠ c
  | 0, i => by simp [findF]; intro k h1 h2; omega
  | d + 1, i => by
    unfold findF
    by_cases hx : l.getD i 0 = c
    · rw [if_pos hx]
      constructor
      · intro h; cases h
      · intro h; exact absurd hx (h i (Nat.le_refl _) (by omega))
    · rw [if_neg hx, findF_none l c d (i + 1)]
      constructor
      · intro h k h1 h2
        rcases Nat.eq_or_lt_of_le h1 with rfl | h5
        · exact hx
        · exact h k h5 (by omega)
      · intro h k h1 h2; exact h k (by omega) (by omega)
theorem getD_cut (l : List Int) (a n k : Nat) (h : k < n) : ((l.drop a).take n).getD k 0 = l.getD (a + k) 0 := by
  simp [List.getD, List.getElem?_take, h]
theorem str_one (c : Int) (hc0 : 0 ≤ c) (hc1 : c < 128) : Asc (strOfNums [c]) ∧ ints (strOfNums [c]) = [c] := by
  obtain ⟨m, rfl⟩ := Int.eq_ofNat_of_zero_le hc0
  have hm : m < 256 := by omega
  constructor
  · intro b hb
    simp [strOfNums] at hb
    subst hb
    simp [Nat.mod_eq_of_lt hm]
    omega
  · simp [ints, strOfNums, Nat.mod_eq_of_lt hm]
/-- No sign stands in a part: spec.IndexAll tells -1. -/
theorem none_in (t : ByteArray) (ht : Asc t) (hs : t.size ≤ 100) (c : Int) (hc0 : 0 ≤ c) (hc1 : c < 128) (a b : Nat) (hab : a ≤ b) (hb : b ≤ t.size) (hn : ∀ k, a ≤ k → k < b → (ints t).getD k 0 ≠ c) : spec_IndexAll.f (t.extract a b) (strOfNums [c]) = some (-1) := by
  have hlen := ints_length t
  obtain ⟨hsa, hsi⟩ := str_one c hc0 hc1
  have hstr : runesOf (strOfNums [c]) = [c] := by rw [runesOf_asc hsa, hsi]
  have hsz : (strOfNums [c]).size = 1 := by rw [← ints_length, hsi]; rfl
  have hext : runesOf (t.extract a b) = ((ints t).drop a).take (b - a) := by
    rw [runesOf_asc (asc_extract ht a b), ints_extract]
  unfold spec_IndexAll.f
  rw [if_pos ⟨by simp; omega, by omega⟩, hstr, hext]
  dsimp only
  unfold idx1
  rw [(findF_none _ c _ 0).2 (fun k h1 h2 => by
    have hkl : k < b - a := by rw [List.length_take] at h2; omega
    rw [getD_cut _ _ _ _ hkl]
    exact hn (a + k) (by omega) (by omega))]
  rfl

theorem once_tells (t : ByteArray) (ht : Asc t) (hs : t.size ≤ 100) (i : Nat) (hi : i ≤ t.size) (c : Int) (hc0 : 0 ≤ c) (hc1 : c < 128) : impl_KeyedOnce.f t (i : Int) 19 ⟨#[]⟩ c false false =
    (match findF (ints t) c (t.size - (i + 1)) (i + 1) with | some j => some (t, (j : Int), 1, true) | none => some (t, (i : Int), 0, true)) := by
  have hlen := ints_length t
  have h0 : step5 ⟨[], 0, []⟩ ⟨20, t, (i : Int), false, false⟩ = some (⟨ints t, i, []⟩, -1) := by
    rw [step_20 ⟨by unfold KS.ok; simp, by omega, by omega, by omega⟩ (by rw [runesOf_asc ht, ints_length]; omega), runesOf_asc ht, Int.toNat_natCast]
  have h1 := step_19 (s := ⟨ints t, i, []⟩) (t := ⟨#[]⟩) (n := c) (f := false) (b := false) ⟨by unfold KS.ok; simp; omega, by decide, hc0, by omega⟩
  have hk : kmove ⟨ints t, i, []⟩ c false false = (match findF (ints t) c (t.size - (i + 1)) (i + 1) with | some j => (⟨ints t, j, []⟩, 1) | none => (⟨ints t, i, []⟩, 0)) := by
    unfold kmove
    dsimp only
    rw [hlen]
    rfl
  rw [hk] at h1
  unfold impl_KeyedOnce.f onceF
  cases hf : findF (ints t) c (t.size - (i + 1)) (i + 1) with
  | none =>
    rw [hf] at h1
    dsimp only at h1
    rw [krun_cons h0 (krun_cons h1 (krun_nil _))]
    dsimp only
    rw [if_pos (by omega), runesBytes_ints ht]
    rfl
  | some j =>
    rw [hf] at h1
    dsimp only at h1
    rw [krun_cons h0 (krun_cons h1 (krun_nil _))]
    dsimp only
    rw [if_pos (by omega), runesBytes_ints ht]
    rfl

theorem FnMoveToThere : laws_FnMoveToThere.Pure := by
  intro t a c ht ha hc
  refine Ev.rounds (r := true) ?_
  have hcx : 0 ≤ c ∧ c ≤ 255 := by
    simp only [Lit.wf, Bool.and_eq_true, decide_eq_true_eq] at hc
    have e1 : IntKind.u8.min = 0 := rfl
    have e2 : IntKind.u8.max = 255 := rfl
    omega
  have j0 : ∀ b : Bool, (b = false → t.size ≤ 100 ∧ Asc t ∧ 0 ≤ a ∧ a ≤ t.size ∧ c < 128) → Ev (fun k => laws_FnMoveToThere.j0 k c b t a) true := by
    intro b hb
    cases b with
    | true => exact Ev.step (fun k => by rw [laws_FnMoveToThere.j0]) (ev_ifp rfl (Ev.now _))
    | false =>
      obtain ⟨h1, h2, h3, h4, h5⟩ := hb rfl
      obtain ⟨i, rfl⟩ := Int.eq_ofNat_of_zero_le h3
      have hi : i ≤ t.size := by omega
      have hlen := ints_length t
      have ho := once_tells t h2 h1 i hi c hcx.1 h5
      refine Ev.step (fun k => by rw [laws_FnMoveToThere.j0, w64 (x := c) (by omega) (by omega), ho]) (ev_ifn (by simp) ?_)
      cases hf : findF (ints t) c (t.size - (i + 1)) (i + 1) with
      | none =>
        have hn := (findF_none _ _ _ _).1 hf
        simp only [Option.bind_some]
        refine ev_ifp trivial (ev_ifp trivial (ev_ifn (by omega) ?_))
        rw [decide_eq_false (show ¬ ((i : Int) > (t.size : Int)) by omega)]
        refine Ev.step (fun k => by rw [laws_FnMoveToThere.j1, w64 (x := (i : Int) + 1) (by omega) (by omega)]) (ev_ifn (by simp) (ev_ifn (by omega) (ev_ifp (by simp) ?_)))
        by_cases hlt : i < t.size
        · have hmn : mn ((i : Int) + 1) (t.size : Int) = ((i + 1 : Nat) : Int) := by unfold mn; omega
          rw [hmn, Int.toNat_natCast]
          have := none_in t h2 h1 c hcx.1 h5 (i + 1) t.size (by omega) (Nat.le_refl _) (fun k g1 g2 => hn k g1 (by omega))
          rw [this]
          exact ev_ifp (by omega) (ev_ifp (by omega) (ev_some rfl))
        · have hmn : mn ((i : Int) + 1) (t.size : Int) = ((t.size : Nat) : Int) := by unfold mn; omega
          rw [hmn, Int.toNat_natCast]
          have := none_in t h2 h1 c hcx.1 h5 t.size t.size (Nat.le_refl _) (Nat.le_refl _) (fun k g1 g2 => by omega)
          rw [this]
          exact ev_ifp (by omega) (ev_ifp (by omega) (ev_some rfl))
      | some j =>
        obtain ⟨hj, hn⟩ := findF_some _ _ _ _ _ hf
        obtain ⟨hl1, hl2⟩ := findF_lt _ _ _ _ _ hf
        have hjt : j < t.size := by omega
        have hbt : bt t (j : Int) = c := by
          rw [bt_ints t j hjt, ← hj, List.getD_eq_getElem?_getD, List.getElem?_eq_getElem (by omega)]; rfl
        have hin := none_in t h2 h1 c hcx.1 h5 (i + 1) j hl1 (by omega) (fun k g1 g2 => hn k g1 g2)
        simp only [Option.bind_some]
        refine ev_ifp trivial (ev_ifp trivial (ev_ifn (by omega) ?_))
        rw [decide_eq_false (show ¬ ((j : Int) > (t.size : Int)) by omega)]
        refine Ev.step (fun k => by rw [laws_FnMoveToThere.j1, w64 (x := (i : Int) + 1) (by omega) (by omega)]) (ev_ifn (by simp) (ev_ifp rfl (ev_ifp (by omega) (ev_ifp (by omega) (ev_ifp (by omega) (ev_ifp hbt (ev_ifp (by omega) (ev_ifp (by omega) (ev_ifp (by omega) ?_)))))))))
        rw [show ((i : Int) + 1).toNat = i + 1 by omega, Int.toNat_natCast, hin]
        exact ev_some rfl
  unfold laws_FnMoveToThere.f
  by_cases hz : (t.size : Int) > 2147483647
  · have e : laws_zzFits11.f t a = some false := if_pos hz
    simp only [e, Option.bind_some]
    exact ev_ifn (by simp) (Ev.now _)
  have e : laws_zzFits11.f t a = some true := if_neg hz
  simp only [e, Option.bind_some]
  refine ev_ifp trivial ?_
  obtain ⟨b, hb, hq⟩ := short_tells t a (by omega)
  refine ev_bind hb ?_
  cases b with
  | false => exact ev_ifn (by simp) (j0 true (by simp))
  | true =>
    obtain ⟨h1, h2, h3, h4⟩ := hq rfl
    refine ev_ifp rfl ?_
    by_cases g2 : c = 0
    · exact ev_ifp g2 (j0 true (by simp))
    · exact ev_ifn g2 (j0 _ (fun hd => ⟨h1, h2, h3, h4, by have := of_decide_eq_false hd; omega⟩))
end Go.Proofs.YtdinikcfhpfojaaDoor.Pure
