/- Steps over words come to each word's beginning, forth and back: the pure statement behind the law FnWordsOver; no condition. -/
import Derived.Test.YtdinikcfhpfojaaDoorPFnWordsOverx2
import Derived.Test.YtdinikcfhpfojaaDoorHSteps
namespace Go.Proofs.YtdinikcfhpfojaaDoor.Pure
open Go.RowKit Go.Proofs.YtdinikcfhpfojaaDoor.PFnWordsOver Go.Proofs.YtdinikcfhpfojaaDoorW.PrintWords Go.Proofs.YtdinikcfhpfojaaDoorW.PrintLast Go.Proofs.YtdinikcfhpfojaaDoor.X Go.Proofs.YtdinikcfhpfojaaDoor.R Go.Proofs.YtdinikcfhpfojaaDoor.H
set_option linter.unusedVariables false
set_option linter.unusedSimpArgs false

theorem ascii_loop (s : ByteArray) (hs : s.size ≤ 2147483647) (d : Nat) : ∀ i : Nat, i + d = s.size →
    ∃ b, Ev (fun k => laws_ascii9.l0 k s (s.size : Int) (i : Int)) b ∧ (b = true → s.size ≤ 300 ∧ ∀ j (hj : j < s.size), i ≤ j → (s.data.toList[j]'(by rw [dlen]; exact hj)).toNat < 128) := by
  induction d with
  | zero =>
    intro i hi
    exact ⟨decide ((s.size : Int) ≤ 300), Ev.step (fun k => by rw [laws_ascii9.l0]) (ev_ifn (by omega) (Ev.now _)), fun h => ⟨by have := of_decide_eq_true h; omega, fun j hj h => by omega⟩⟩
  | succ d ih =>
    intro i hi
    obtain ⟨b, hb, hq⟩ := ih (i + 1) (by omega)
    rw [show ((i + 1 : Nat) : Int) = (i : Int) + 1 from by omega] at hb
    have e1 := bt_nat s i (by omega)
    by_cases h : (128 : Int) ≤ bt s (i : Int)
    · exact ⟨false, Ev.step (fun k => by rw [laws_ascii9.l0]) (ev_ifp (by omega) (ev_ifp (by omega) (ev_ifp (by omega) (ev_ifp h (Ev.now _))))), fun h => by cases h⟩
    · refine ⟨b, Ev.step (fun k => by rw [laws_ascii9.l0, w64 (x := (i : Int) + 1) (by omega) (by omega)]) (ev_ifp (by omega) (ev_ifp (by omega) (ev_ifp (by omega) (ev_ifn h hb)))), fun hbt => ⟨(hq hbt).1, fun j hj hij => ?_⟩⟩
      rcases Nat.eq_or_lt_of_le hij with rfl | hlt
      · omega
      · exact (hq hbt).2 j hj hlt
theorem ascii_tells (s : ByteArray) (hs : s.size ≤ 2147483647) : ∃ b, Ev (fun k => laws_ascii9.f k s) b ∧ (b = true → s.size ≤ 300 ∧ Asc s) := by
  obtain ⟨b, hb, hq⟩ := ascii_loop s hs s.size 0 (by omega)
  refine ⟨b, hb, fun h => ⟨(hq h).1, fun x hx => ?_⟩⟩
  obtain ⟨j, hj, rfl⟩ := List.getElem_of_mem hx
  exact (hq h).2 j (by rw [← dlen]; exact hj) (Nat.zero_le _)
theorem iws (c : Int) : spec_IsWordSign.f c = some (wsign c) := by
  unfold spec_IsWordSign.f wsign
  by_cases h1 : c ≥ 97 <;> by_cases h2 : c ≤ 122 <;> by_cases h3 : c ≥ 65 <;> by_cases h4 : c ≤ 90 <;> by_cases h5 : c ≥ 48 <;> by_cases h6 : c ≤ 57 <;> simp [h1, h2, h3, h4, h5, h6] <;> omega
/-- The places where words begin, from i on. -/
def pl (l : List Int) : Nat → Nat → List Nat
  | 0, _ => []
  | d + 1, i => if begs l i then i :: pl l d (i + 1) else pl l d (i + 1)
/-- The places where words begin, up to i. -/
def qp (l : List Int) : Nat → List Nat
  | 0 => []
  | i + 1 => if begs l (i + 1) then qp l i ++ [i + 1] else qp l i
theorem qp_add (l : List Int) : ∀ d m, qp l (m + d) = qp l m ++ pl l d (m + 1)
  | 0, m => by simp [pl]
  | d + 1, m => by
    rw [show m + (d + 1) = (m + 1) + d by omega, qp_add l d (m + 1), pl, qp]
    split
    · rw [List.append_assoc]; rfl
    · rfl
theorem hd0 {α : Type} (l : List α) (d : α) : l.headD d = l.getD 0 d := by cases l <;> rfl
theorem nextW_pl (l : List Int) : ∀ d i, i + d = l.length ∨ d = 0 → nextW l d i = (pl l d i).headD l.length ∧ ∀ p r, pl l d i = p :: r → i ≤ p ∧ p < l.length ∧ r = pl l (l.length - (p + 1)) (p + 1)
  | 0, i, h => ⟨by simp [nextW, pl], fun p r h => by simp [pl] at h⟩
  | d + 1, i, h => by
    rw [nextW, pl]
    by_cases hb : begs l i = true
    · rw [if_pos hb, if_pos hb]
      refine ⟨rfl, fun p r e => ?_⟩
      injection e with e1 e2
      subst e1
      refine ⟨Nat.le_refl _, by omega, ?_⟩
      rw [← e2]
      congr 1
      omega
    · rw [if_neg hb, if_neg hb]
      obtain ⟨g1, g2⟩ := nextW_pl l d (i + 1) (by omega)
      exact ⟨g1, fun p r e => by obtain ⟨q1, q2, q3⟩ := g2 p r e; exact ⟨by omega, q2, q3⟩⟩
theorem prevW_qp (l : List Int) : ∀ i, prevW l i = (qp l i).reverse.headD 0 ∧ ∀ p r, (qp l i).reverse = p :: r → p ≤ i ∧ r = (qp l (p - 1)).reverse
  | 0 => ⟨by simp [prevW, qp], fun p r h => by simp [qp] at h⟩
  | i + 1 => by
    rw [prevW, qp]
    by_cases hb : begs l (i + 1) = true
    · rw [if_pos hb, if_pos hb, List.reverse_append]
      refine ⟨rfl, fun p r e => ?_⟩
      have e' : (i + 1) :: (qp l i).reverse = p :: r := e
      injection e' with e1 e2
      subst e1
      exact ⟨Nat.le_refl _, e2.symm⟩
    · rw [if_neg hb, if_neg hb]
      obtain ⟨g1, g2⟩ := prevW_qp l i
      exact ⟨g1, fun p r e => by obtain ⟨q1, q2⟩ := g2 p r e; exact ⟨by omega, q2⟩⟩
abbrev KN : S29 := ⟨11, ⟨#[]⟩, 0, false, false⟩
abbrev KP : S29 := ⟨10, ⟨#[]⟩, 0, false, false⟩
abbrev KN5 : Key5 := ⟨11, ⟨#[]⟩, 0, false, false⟩
abbrev KP5 : Key5 := ⟨10, ⟨#[]⟩, 0, false, false⟩
theorem z0 : (⟨#[]⟩ : ByteArray).size ≤ 1000000 := by decide
theorem run_next (l : List Int) (hl : l.length ≤ 60) : ∀ k j, j ≤ l.length → k ≤ (pl l (l.length - (j + 1)) (j + 1)).length →
    ∃ ts, krun ⟨l, j, []⟩ (List.replicate (k + 1) KN5) = some (⟨l, (pl l (l.length - (j + 1)) (j + 1)).getD k l.length, []⟩, ts)
  | 0, j, hj, hk => by
    have t1 := step_11 (s := ⟨l, j, []⟩) (t := ⟨#[]⟩) (n := 0) (f := false) (b := false) ⟨by unfold KS.ok; simp; omega, z0, by omega, by omega⟩
    dsimp only at t1
    rw [(nextW_pl l _ _ (by omega)).1, hd0] at t1
    exact ⟨_, krun_cons t1 (krun_nil _)⟩
  | k + 1, j, hj, hk => by
    have t1 := step_11 (s := ⟨l, j, []⟩) (t := ⟨#[]⟩) (n := 0) (f := false) (b := false) ⟨by unfold KS.ok; simp; omega, z0, by omega, by omega⟩
    dsimp only at t1
    obtain ⟨g1, g2⟩ := nextW_pl l (l.length - (j + 1)) (j + 1) (by omega)
    rw [g1] at t1
    cases hp : pl l (l.length - (j + 1)) (j + 1) with
    | nil => rw [hp] at hk; simp at hk
    | cons p r =>
      obtain ⟨q1, q2, q3⟩ := g2 p r hp
      rw [hp] at t1 hk
      simp only [List.length_cons] at hk
      obtain ⟨ts, hr⟩ := run_next l hl k p (by omega) (by rw [← q3]; omega)
      rw [← q3] at hr
      exact ⟨_, krun_cons t1 hr⟩
theorem run_prev (l : List Int) (hl : l.length ≤ 60) : ∀ k j, j ≤ l.length → k ≤ (qp l (j - 1)).length →
    ∃ ts, krun ⟨l, j, []⟩ (List.replicate (k + 1) KP5) = some (⟨l, (qp l (j - 1)).reverse.getD k 0, []⟩, ts)
  | 0, j, hj, hk => by
    have t1 := step_10 (s := ⟨l, j, []⟩) (t := ⟨#[]⟩) (n := 0) (f := false) (b := false) ⟨by unfold KS.ok; simp; omega, z0, by omega, by omega⟩
    dsimp only at t1
    rw [(prevW_qp l _).1, hd0] at t1
    exact ⟨_, krun_cons t1 (krun_nil _)⟩
  | k + 1, j, hj, hk => by
    have t1 := step_10 (s := ⟨l, j, []⟩) (t := ⟨#[]⟩) (n := 0) (f := false) (b := false) ⟨by unfold KS.ok; simp; omega, z0, by omega, by omega⟩
    dsimp only at t1
    obtain ⟨g1, g2⟩ := prevW_qp l (j - 1)
    rw [g1] at t1
    rw [← List.length_reverse] at hk
    cases hp : (qp l (j - 1)).reverse with
    | nil => rw [hp] at hk; simp at hk
    | cons p r =>
      obtain ⟨q1, q2⟩ := g2 p r hp
      rw [hp] at t1 hk
      simp only [List.length_cons] at hk
      obtain ⟨ts, hr⟩ := run_prev l hl k p (by omega) (by rw [← List.length_reverse, ← q2]; omega)
      rw [← q2] at hr
      exact ⟨_, krun_cons t1 hr⟩

theorem FnWordsOver : laws_FnWordsOver.Pure := by
  intro t ht
  refine Ev.rounds (r := true) ?_
  have j0 : ∀ b : Bool, (b = false → t.size ≤ 60 ∧ Asc t) → Ev (fun k => laws_FnWordsOver.j0 k t b) true := by
    intro b hb
    cases b with
    | true => exact Ev.step (fun k => by rw [laws_FnWordsOver.j0]) (ev_ifp rfl (Ev.now _))
    | false =>
      obtain ⟨h1, hasc⟩ := hb rfl
      have hl := ints_length t
      obtain ⟨Q, hQ⟩ : ∃ Q, Q = qp (ints t) (t.size - 1) := ⟨_, rfl⟩
      have hQ2 : pl (ints t) ((ints t).length - (0 + 1)) (0 + 1) = Q := by
        have := qp_add (ints t) (t.size - 1) 0
        rw [hQ, hl]
        simpa [qp] using this.symm
      have hQl : Q.length ≤ 60 := by
        rw [← hQ2]
        have hpl : ∀ d i, (pl (ints t) d i).length ≤ d := by
          intro d
          induction d with
          | zero => intro i; simp [pl]
          | succ d ih => intro i; rw [pl]; have := ih (i + 1); split <;> simp <;> omega
        have := hpl ((ints t).length - (0 + 1)) (0 + 1)
        omega
      have nx : ∀ k, k ≤ Q.length → laws_after9.f t 0 (List.replicate k KN ++ [KN]) = some (t, ((Q.getD k t.size : Nat) : Int), true) := by
        intro k hk
        obtain ⟨ts, hr⟩ := run_next (ints t) (by omega) k 0 (by omega) (by rw [hQ2]; exact hk)
        rw [hQ2] at hr
        have := after_tells (i := 0) (l := List.replicate (k + 1) KN5) (by rw [List.length_replicate]; have := hQl; omega) hasc (by omega) (by omega) hr (by dsimp only; omega)
        dsimp only at this
        rw [runesBytes_ints hasc, hl] at this
        unfold laws_after9.f
        rw [← List.replicate_succ', List.map_replicate]
        exact this
      have pv : ∀ k, k ≤ Q.length → laws_after9.f t (t.size : Int) (List.replicate k KP ++ [KP]) = some (t, ((Q.reverse.getD k 0 : Nat) : Int), true) := by
        intro k hk
        obtain ⟨ts, hr⟩ := run_prev (ints t) (by omega) k t.size (by omega) (by rw [← hQ]; exact hk)
        rw [← hQ] at hr
        have := after_tells (i := t.size) (l := List.replicate (k + 1) KP5) (by rw [List.length_replicate]; omega) hasc (by omega) (by omega) hr (by dsimp only; omega)
        dsimp only at this
        rw [runesBytes_ints hasc] at this
        unfold laws_after9.f
        rw [← List.replicate_succ', List.map_replicate]
        exact this
      obtain ⟨Z, hZ⟩ : ∃ Z : List Int, Z = Q.map (fun q : Nat => (q : Int)) := ⟨_, rfl⟩
      have hZl : Z.length = Q.length := by rw [hZ, List.length_map]
      have hrd : ∀ i : Nat, i < Q.length → rd Z (i : Int) = ((Q.getD i t.size : Nat) : Int) := by
        intro i hi
        unfold rd
        rw [hZ, Int.toNat_natCast, List.getD_eq_getElem?_getD, List.getD_eq_getElem?_getD, List.getElem?_map, List.getElem?_eq_getElem hi]
        rfl
      have l2 : ∀ d i : Nat, i + d = Q.length → Ev (fun k => laws_FnWordsOver.l2 k t Z true (List.replicate i KP) ((Q.length : Int) - 1 - (i : Int)) t (t.size : Int)) true := by
        intro d
        induction d with
        | zero =>
          intro i hi
          have e := pv i (by omega)
          have e0 : Q.reverse.getD i 0 = 0 := by
            rw [List.getD_eq_getElem?_getD, List.getElem?_eq_none (by rw [List.length_reverse]; omega)]; rfl
          rw [e0] at e
          refine Ev.step (fun k => by rw [laws_FnWordsOver.l2, e]) (ev_ifn (by omega) (ev_ifp (by rw [List.length_replicate]; omega) ?_))
          simp only [Option.bind_some]
          exact ev_ifp trivial (ev_ifp trivial (ev_ifp trivial (ev_some (by simp))))
        | succ d ih =>
          intro i hi
          have e := pv i (by omega)
          have hz : ((Q.length : Int) - 1 - (i : Int)) = ((Q.length - 1 - i : Nat) : Int) := by omega
          have e0 : ((Q.reverse.getD i 0 : Nat) : Int) = rd Z ((Q.length : Int) - 1 - (i : Int)) := by
            rw [hz, hrd _ (by omega), List.getD_eq_getElem?_getD, List.getD_eq_getElem?_getD, List.getElem?_reverse (by omega), List.getElem?_eq_getElem (by omega)]
            rfl
          have hb := ih (i + 1) (by omega)
          rw [List.replicate_succ', show ((Q.length : Int) - 1 - ((i + 1 : Nat) : Int)) = (Q.length : Int) - 1 - (i : Int) - 1 by omega] at hb
          refine Ev.step (fun k => by rw [laws_FnWordsOver.l2, w64 (x := (Q.length : Int) - 1 - (i : Int) - 1) (by omega) (by omega)]) (ev_ifp (by omega) (ev_ifp (by rw [List.length_replicate]; omega) ?_))
          simp only [Option.bind_some]
          refine Ev.congr (fun k => by rw [e]) ?_
          simp only [Option.bind_some]
          exact ev_ifp trivial (ev_ifp (by omega) (ev_ifp (by omega) (ev_ifp e0 hb)))
      have l1 : ∀ d i : Nat, i + d = Q.length → Ev (fun k => laws_FnWordsOver.l1 k t (List.replicate i KN) Z (Q.length : Int) (i : Int)) true := by
        intro d
        induction d with
        | zero =>
          intro i hi
          have e := nx i (by omega)
          have e0 : Q.getD i t.size = t.size := by
            rw [List.getD_eq_getElem?_getD, List.getElem?_eq_none (by omega)]; rfl
          rw [e0] at e
          have hb := l2 Q.length 0 (by omega)
          rw [show ((Q.length : Int) - 1 - ((0 : Nat) : Int)) = (Q.length : Int) - 1 by omega] at hb
          refine Ev.step (fun k => by rw [laws_FnWordsOver.l1, e, hZl, w64 (x := (Q.length : Int) - 1) (by omega) (by omega)]) (ev_ifn (by omega) (ev_ifp (by rw [List.length_replicate]; omega) ?_))
          simp only [Option.bind_some]
          exact hb
        | succ d ih =>
          intro i hi
          have e := nx i (by omega)
          have e0 := (hrd i (by omega)).symm
          have hb := ih (i + 1) (by omega)
          rw [List.replicate_succ', show ((i + 1 : Nat) : Int) = (i : Int) + 1 by omega] at hb
          refine Ev.step (fun k => by rw [laws_FnWordsOver.l1, w64 (x := (i : Int) + 1) (by omega) (by omega)]) (ev_ifp (by omega) (ev_ifp (by rw [List.length_replicate]; omega) ?_))
          simp only [Option.bind_some]
          refine Ev.congr (fun k => by rw [e]) ?_
          simp only [Option.bind_some]
          exact ev_ifp trivial (ev_ifp (by omega) (ev_ifp (by omega) (ev_ifp e0 (ev_ifp trivial hb))))
      have l0 : ∀ d i : Nat, i + d = t.size ∨ d = 0 ∧ t.size ≤ i ∧ i ≤ 1 → 1 ≤ i → Ev (fun k => laws_FnWordsOver.l0 k t ((qp (ints t) (i - 1)).map (fun q : Nat => (q : Int))) (i : Int)) true := by
        intro d
        induction d with
        | zero =>
          intro i hi h1i
          have ez : qp (ints t) (i - 1) = Q := by rw [hQ]; congr 1; omega
          rw [ez, ← hZ]
          refine Ev.step (fun k => by rw [laws_FnWordsOver.l0, hZl]) (ev_ifn (by omega) ?_)
          by_cases g : (Q.length : Int) > 25
          · exact ev_ifp g (Ev.now _)
          · exact ev_ifn g (l1 Q.length 0 (by omega))
        | succ d ih =>
          intro i hi h1i
          have hb := ih (i + 1) (by omega) (by omega)
          obtain ⟨m, rfl⟩ : ∃ m, i = m + 1 := ⟨i - 1, by omega⟩
          have b1 := bt_ints t (m + 1) (by omega)
          have b2 := bt_ints t m (by omega)
          have c1 : bt t ((m + 1 : Nat) : Int) = (ints t).getD (m + 1) 0 := by rw [b1, List.getD_eq_getElem?_getD, List.getElem?_eq_getElem (by omega)]; rfl
          have c2 : bt t (m : Int) = (ints t).getD m 0 := by rw [b2, List.getD_eq_getElem?_getD, List.getElem?_eq_getElem (by omega)]; rfl
          have r1 := bt_range t ((m + 1 : Nat) : Int)
          have r2 := bt_range t (m : Int)
          have x1 : ((m + 1 : Nat) : Int) - 1 = (m : Int) := by omega
          have x2 : wrap32 (bt t ((m + 1 : Nat) : Int)) = bt t ((m + 1 : Nat) : Int) := by unfold wrap32; omega
          have x3 : wrap32 (bt t (m : Int)) = bt t (m : Int) := by unfold wrap32; omega
          rw [show m + 1 + 1 - 1 = m + 1 by omega, show ((m + 1 + 1 : Nat) : Int) = ((m + 1 : Nat) : Int) + 1 by omega] at hb
          rw [show m + 1 - 1 = m by omega]
          have hql : ((qp (ints t) m).map (fun q : Nat => (q : Int))).length < 17592186044416 := by
            have := qp_add (ints t) (t.size - 1 - m) m
            rw [show m + (t.size - 1 - m) = t.size - 1 by omega, ← hQ] at this
            have h2 := congrArg List.length this
            rw [List.length_append] at h2
            rw [List.length_map]
            omega
          refine Ev.step (fun k => by rw [laws_FnWordsOver.l0, w64 (x := ((m + 1 : Nat) : Int) - 1) (by omega) (by omega), w64 (x := ((m + 1 : Nat) : Int) + 1) (by omega) (by omega), x1, x2, x3, iws, iws, c1, c2]) (ev_ifp (by omega) (ev_ifp (by omega) ?_))
          simp only [Option.bind_some]
          cases w1 : wsign ((ints t).getD (m + 1) 0) with
          | false =>
            have hq : qp (ints t) (m + 1) = qp (ints t) m := by rw [qp, if_neg (by unfold begs; rw [w1, Bool.false_and]; decide)]
            rw [hq] at hb
            exact ev_ifn (by simp) hb
          | true =>
            refine ev_ifp rfl (ev_ifp (by omega) (ev_ifp (by omega) ?_))
            cases w2 : wsign ((ints t).getD m 0) with
            | true =>
              have hq : qp (ints t) (m + 1) = qp (ints t) m := by rw [qp, if_neg (by unfold begs; rw [Nat.add_sub_cancel, w1, w2]; decide)]
              rw [hq] at hb
              exact ev_ifp rfl hb
            | false =>
              have hq : qp (ints t) (m + 1) = qp (ints t) m ++ [m + 1] := by rw [qp, if_pos (by unfold begs; rw [Nat.add_sub_cancel, w1, w2]; rfl)]
              rw [hq, List.map_append] at hb
              exact ev_ifn (by simp) (ev_ifp hql hb)
      refine Ev.step (fun k => by rw [laws_FnWordsOver.j0]) (ev_ifn (by simp) ?_)
      exact l0 (t.size - 1) 1 (by omega) (Nat.le_refl _)
  unfold laws_FnWordsOver.f
  by_cases hz : (t.size : Int) > 2147483647
  · exact ev_ifp hz (Ev.now _)
  refine ev_ifn hz ?_
  obtain ⟨b, hb, hq⟩ := ascii_tells t (by omega)
  refine ev_bind hb ?_
  cases b with
  | false => exact ev_ifn (by simp) (j0 true (by simp))
  | true => exact ev_ifp rfl (j0 _ (fun hd => ⟨by have := of_decide_eq_false hd; omega, (hq rfl).2⟩))
end Go.Proofs.YtdinikcfhpfojaaDoor.Pure
