/- Beyond the oldest text, and beyond the newest one, nothing changes: the pure statement behind the law FnHistoryEnds; no condition. -/
import Derived.Test.YthbdaoapjnofkaaQPFnHistoryEndsx1
namespace Go.Proofs.Ythbdaoapjnofkaa.Pure
open Go.RowKit Go.Proofs.Ythbdaoapjnofkaa.R Go.Proofs.Ythbdaoapjnofkaa.X Go.Proofs.Ythbdaoapjnofkaa.PFnHistoryEnds Go.Proofs.Ythbdaoapjnofkaa.H Go.Proofs.YthbdaoapjnofkaaW.PrintWords Go.Proofs.YthbdaoapjnofkaaW.PrintLast
set_option linter.unusedVariables false
theorem ascii_loop (s : ByteArray) (hs : s.size ≤ 4611686018427387904) (d : Nat) : ∀ i : Nat, i + d = s.size →
    ∃ b, Ev (fun k => spec_ASCII.l0 k s (i : Int)) b ∧ (b = true → s.size ≤ 1000 ∧ ∀ j (hj : j < s.size), i ≤ j → (s.data.toList[j]'(by rw [dlen]; exact hj)).toNat < 128) := by
  induction d with
  | zero =>
    intro i hi
    exact ⟨decide ((s.size : Int) ≤ 1000), Ev.step (fun k => by rw [spec_ASCII.l0]) (ev_ifn (by omega) (Ev.now _)), fun h => ⟨by have := of_decide_eq_true h; omega, fun j hj h => by omega⟩⟩
  | succ d ih =>
    intro i hi
    obtain ⟨b, hb, hq⟩ := ih (i + 1) (by omega)
    rw [show ((i + 1 : Nat) : Int) = (i : Int) + 1 from by omega] at hb
    have e1 := bt_nat s i (by omega)
    by_cases h : (128 : Int) ≤ bt s (i : Int)
    · exact ⟨false, Ev.step (fun k => by rw [spec_ASCII.l0]) (ev_ifp (by omega) (ev_ifp (by omega) (ev_ifp h (Ev.now _)))), fun h => by cases h⟩
    · refine ⟨b, Ev.step (fun k => by rw [spec_ASCII.l0, w64 (x := (i : Int) + 1) (by omega) (by omega)]) (ev_ifp (by omega) (ev_ifp (by omega) (ev_ifn h hb))), fun hbt => ⟨(hq hbt).1, fun j hj hij => ?_⟩⟩
      rcases Nat.eq_or_lt_of_le hij with rfl | hlt
      · omega
      · exact (hq hbt).2 j hj hlt
theorem rd_at (L : List ByteArray) (i : Nat) (h : i < L.length) : rdOf ByteArray.empty L (i : Int) = L[i] := by
  unfold rdOf
  rw [Int.toNat_natCast, List.getD_eq_getElem?_getD, List.getElem?_eq_getElem h]
  rfl
theorem ascii_tells (s : ByteArray) (hs : s.size ≤ 4611686018427387904) : ∃ b, Ev (fun k => spec_ASCII.f k s) b ∧ (b = true → s.size ≤ 1000 ∧ Asc s) := by
  obtain ⟨b, hb, hq⟩ := ascii_loop s hs s.size 0 (by omega)
  refine ⟨b, hb, fun h => ⟨(hq h).1, fun x hx => ?_⟩⟩
  obtain ⟨j, hj, rfl⟩ := List.getElem_of_mem hx
  exact (hq h).2 j (by rw [← dlen]; exact hj) (Nat.zero_le _)
theorem fits_tells (L : List ByteArray) : ∃ b, Ev (fun k => laws_zzFits1.f k L) b ∧ (b = true → ∀ x ∈ L, x.size ≤ 4611686018427387904) := by
  unfold laws_zzFits1.f
  by_cases hl : (L.length : Int) > 2147483647
  · exact ⟨false, ev_ifp hl (Ev.now _), fun h => by cases h⟩
  · have h : ∀ d i : Nat, i + d = L.length → ∃ b, Ev (fun k => laws_zzFits1.l0 k L (L.length : Int) (i : Int)) b ∧ (b = true → ∀ j (hj : j < L.length), i ≤ j → L[j].size ≤ 4611686018427387904) := by
      intro d
      induction d with
      | zero => intro i hi; exact ⟨true, Ev.step (fun k => by rw [laws_zzFits1.l0]) (ev_ifn (by omega) (Ev.now _)), fun _ j hj h => by omega⟩
      | succ d ih =>
        intro i hi
        obtain ⟨b, hb, hq⟩ := ih (i + 1) (by omega)
        rw [show ((i + 1 : Nat) : Int) = (i : Int) + 1 from by omega] at hb
        have hr := rd_at L i (by omega)
        by_cases h2 : ((rdOf ByteArray.empty L (i : Int)).size : Int) > 2147483647
        · exact ⟨false, Ev.step (fun k => by rw [laws_zzFits1.l0]) (ev_ifp (by omega) (ev_ifp (by omega) (ev_ifp (by omega) (ev_ifp h2 (Ev.now _))))), fun h => by cases h⟩
        · refine ⟨b, Ev.step (fun k => by rw [laws_zzFits1.l0, w64 (x := (i : Int) + 1) (by omega) (by omega)]) (ev_ifp (by omega) (ev_ifp (by omega) (ev_ifp (by omega) (ev_ifn h2 hb)))), fun hbt j hj hij => ?_⟩
          rcases Nat.eq_or_lt_of_le hij with rfl | hlt
          · rw [hr] at h2; omega
          · exact hq hbt j hj hlt
    obtain ⟨b, hb, hq⟩ := h L.length 0 (by omega)
    refine ⟨b, ev_ifn hl hb, fun hbt x hx => ?_⟩
    obtain ⟨j, hj, rfl⟩ := List.getElem_of_mem hx
    exact hq hbt j hj (Nat.zero_le _)
/-- Turns, and the history behind them. -/
def turnsS (h : Hst) : List Tn → Option (Hst × List ByteArray × List Bool)
  | [] => some (h, [], [])
  | k :: l => (turn1 h k.op k.text).bind fun p => (turnsS p.1 l).bind fun q => some (q.1, p.2.1 :: q.2.1, p.2.2 :: q.2.2)
theorem turns_app {b : List Tn} {h' : Hst} {t2 : List ByteArray} {f2 : List Bool} (hb : turns h' b = some (t2, f2)) : ∀ (a : List Tn) (h : Hst) (t1 : List ByteArray) (f1 : List Bool), turnsS h a = some (h', t1, f1) → turns h (a ++ b) = some (t1 ++ t2, f1 ++ f2) := by
  intro a
  induction a with
  | nil =>
    intro h t1 f1 ha
    have ha := Option.some.inj ha
    simp only [Prod.mk.injEq] at ha
    obtain ⟨rfl, rfl, rfl⟩ := ha
    exact hb
  | cons k l ih =>
    intro h t1 f1 ha
    obtain ⟨p, hp, ha⟩ := Option.bind_eq_some_iff.1 ha
    obtain ⟨q, hq, ha⟩ := Option.bind_eq_some_iff.1 ha
    have ha := Option.some.inj ha
    obtain ⟨q1, q2, q3⟩ := q
    simp only [Prod.mk.injEq] at ha
    obtain ⟨rfl, rfl, rfl⟩ := ha
    have := ih p.1 q2 q3 hq
    show (turn1 h k.op k.text).bind _ = _
    rw [hp, Option.bind_some]
    show (turns p.1 (l ++ b)).bind _ = _
    rw [this]
    rfl
theorem turnsS_app {b : List Tn} {h' h'' : Hst} {t2 : List ByteArray} {f2 : List Bool} (hb : turnsS h' b = some (h'', t2, f2)) : ∀ (a : List Tn) (h : Hst) (t1 : List ByteArray) (f1 : List Bool), turnsS h a = some (h', t1, f1) → turnsS h (a ++ b) = some (h'', t1 ++ t2, f1 ++ f2) := by
  intro a
  induction a with
  | nil =>
    intro h t1 f1 ha
    have ha := Option.some.inj ha
    simp only [Prod.mk.injEq] at ha
    obtain ⟨rfl, rfl, rfl⟩ := ha
    exact hb
  | cons k l ih =>
    intro h t1 f1 ha
    obtain ⟨p, hp, ha⟩ := Option.bind_eq_some_iff.1 ha
    obtain ⟨q, hq, ha⟩ := Option.bind_eq_some_iff.1 ha
    have ha := Option.some.inj ha
    obtain ⟨q1, q2, q3⟩ := q
    simp only [Prod.mk.injEq] at ha
    obtain ⟨rfl, rfl, rfl⟩ := ha
    have := ih p.1 q2 q3 hq
    show (turn1 h k.op k.text).bind _ = _
    rw [hp, Option.bind_some]
    show (turnsS p.1 (l ++ b)).bind _ = _
    rw [this]
    rfl
/-- A history that was just cleared. -/
def fresh (hl : List ByteArray) : Hst := ⟨hl, hl ++ [⟨#[]⟩], hl.length⟩
theorem adds : ∀ (A hl : List ByteArray), hl.length + A.length ≤ 900 → turnsS (fresh hl) (A.map fun x => (⟨1, x⟩ : Tn)) = some (fresh (hl ++ A), List.replicate A.length ⟨#[]⟩, List.replicate A.length false) := by
  intro A
  induction A with
  | nil => intro hl _; simp [turnsS]
  | cons x A ih =>
    intro hl hn
    simp only [List.length_cons] at hn
    have e : turn1 (fresh hl) 1 x = some (fresh (hl ++ [x]), ⟨#[]⟩, false) := by
      unfold turn1
      rw [if_pos ⟨by show hl.length ≤ 900; omega, by show hl.length < (hl ++ [_]).length; simp, by show (hl ++ [_]).length ≤ 1000; simp; omega⟩, if_pos rfl]
      rfl
    show (turn1 (fresh hl) 1 x).bind _ = _
    rw [e, Option.bind_some]
    show (turnsS (fresh (hl ++ [x])) (A.map _)).bind _ = _
    rw [ih (hl ++ [x]) (by simp; omega), Option.bind_some, List.append_assoc]
    rfl
theorem clear_ (hl : List ByteArray) (hn : hl.length ≤ 900) (x : ByteArray) : turn1 (fresh hl) 4 x = some (fresh hl, ⟨#[]⟩, false) := by
  unfold turn1
  rw [if_pos ⟨by show hl.length ≤ 900; omega, by show hl.length < (hl ++ [_]).length; simp, by show (hl ++ [_]).length ≤ 1000; simp; omega⟩, if_neg (by decide), if_pos rfl]
  rfl
theorem newest (hl : List ByteArray) (hn : hl.length ≤ 900) (x : ByteArray) : turn1 (fresh hl) 3 x = some (fresh hl, x, false) := by
  unfold turn1
  rw [if_pos ⟨by show hl.length ≤ 900; omega, by show hl.length < (hl ++ [_]).length; simp, by show (hl ++ [_]).length ≤ 1000; simp; omega⟩, if_neg (by decide), if_neg (by decide), if_neg (by decide), if_pos rfl, if_pos (by show (hl ++ [_]).length ≤ hl.length + 1; simp)]
theorem olders (s : ByteArray) : ∀ (j : Nat) (h : Hst), h.sel = j → h.hl.length ≤ 900 → h.sel < h.tl.length → h.tl.length ≤ 1000 → (∀ i, i < j → ∃ y, h.tl[i]? = some y ∧ Asc y ∧ y.size ≤ 1000000) →
    ∃ ts fs, turns h (List.replicate (j + 1) (⟨2, s⟩ : Tn)) = some (ts ++ [s], fs ++ [false]) ∧ ts.length = j ∧ fs.length = j := by
  intro j
  induction j with
  | zero =>
    intro h h1 h2 h3 h4 h5
    refine ⟨[], [], ?_, rfl, rfl⟩
    have e : turn1 h 2 s = some (h, s, false) := by
      unfold turn1
      rw [if_pos ⟨h2, h3, h4⟩, if_neg (by decide), if_neg (by decide), if_pos rfl, if_pos (.inr h1)]
    show (turn1 h 2 s).bind _ = _
    rw [e]
    rfl
  | succ j ih =>
    intro h h1 h2 h3 h4 h5
    obtain ⟨y, hy, hya, hyz⟩ := h5 j (by omega)
    have e : turn1 h 2 s = some (⟨h.hl, h.tl.set h.sel s, j⟩, y, true) := by
      unfold turn1
      rw [if_pos ⟨h2, h3, h4⟩, if_neg (by decide), if_neg (by decide), if_pos rfl, if_neg (by omega)]
      unfold goTo
      rw [show h.sel - 1 = j by omega, hy]
      exact if_pos ⟨hya, hyz⟩
    obtain ⟨ts, fs, hr, e1, e2⟩ := ih ⟨h.hl, h.tl.set h.sel s, j⟩ rfl h2 (by show j < (h.tl.set h.sel s).length; rw [List.length_set]; omega) (by show (h.tl.set h.sel s).length ≤ 1000; rw [List.length_set]; omega) (fun i hi => by
      obtain ⟨z, hz⟩ := h5 i (by omega)
      refine ⟨z, ?_, hz.2⟩
      show (h.tl.set h.sel s)[i]? = _
      rw [List.getElem?_set_ne (by omega)]
      exact hz.1)
    refine ⟨y :: ts, true :: fs, ?_, by simp [e1], by simp [e2]⟩
    show (turn1 h 2 s).bind _ = _
    rw [e, Option.bind_some]
    show (turns _ (List.replicate (j + 1) _)).bind _ = _
    rw [hr]
    rfl
/-- All the turns of the law. -/
theorem whole (L : List ByteArray) (s : ByteArray) (hn : L.length ≤ 8) (hL : ∀ x ∈ L, Asc x ∧ x.size ≤ 1000) :
    ∃ ts fs, turns ⟨[], [⟨#[]⟩], 0⟩ ((L.map fun x => (⟨1, x⟩ : Tn)) ++ [⟨4, ⟨#[]⟩⟩, ⟨3, s⟩] ++ List.replicate (L.length + 1) ⟨2, s⟩) = some (List.replicate L.length ⟨#[]⟩ ++ [⟨#[]⟩, s] ++ (ts ++ [s]), List.replicate L.length false ++ [false, false] ++ (fs ++ [false])) ∧ ts.length = L.length ∧ fs.length = L.length := by
  obtain ⟨ts, fs, hr, e1, e2⟩ := olders s L.length (fresh L) rfl (by show L.length ≤ 900; omega) (by show L.length < (L ++ [_]).length; simp) (by show (L ++ [_]).length ≤ 1000; simp; omega) (fun i hi => ⟨L[i], by show (L ++ [_])[i]? = _; rw [List.getElem?_append_left hi, List.getElem?_eq_getElem hi], (hL _ (List.getElem_mem hi)).1, by have := (hL _ (List.getElem_mem hi)).2; omega⟩)
  refine ⟨ts, fs, ?_, e1, e2⟩
  refine turns_app hr _ _ _ _ (turnsS_app (h' := fresh L) ?_ _ _ _ _ ?_)
  · show (turn1 (fresh L) 4 ⟨#[]⟩).bind _ = _
    rw [clear_ L (by omega), Option.bind_some]
    show ((turn1 (fresh L) 3 s).bind _).bind _ = _
    rw [newest L (by omega)]
    rfl
  · have := adds L [] (by simp; omega)
    rw [List.nil_append] at this
    exact this
theorem end_loop (L : List ByteArray) (s : ByteArray) (hn : L.length ≤ 8) (hL : ∀ x ∈ L, Asc x ∧ x.size ≤ 1000) (d : Nat) : ∀ (i : Nat) (X : List S27), i + d = L.length + 1 → X = (L.map fun x => (⟨1, x⟩ : S27)) ++ [⟨4, ⟨#[]⟩⟩, ⟨3, s⟩] ++ List.replicate i ⟨2, s⟩ → Ev (fun k => laws_FnHistoryEnds.l1 k L s X (i : Int)) true := by
  induction d with
  | zero =>
    intro i X hi hX
    obtain ⟨ts, fs, hr, e1, e2⟩ := whole L s hn hL
    have hXl : X.length = 2 * L.length + 3 := by rw [hX]; simp; omega
    have hT : impl_Turned.f X = some (List.replicate L.length ⟨#[]⟩ ++ [⟨#[]⟩, s] ++ (ts ++ [s]), List.replicate L.length false ++ [false, false] ++ (fs ++ [false])) := by
      unfold impl_Turned.f
      rw [if_pos (by omega), ← hr, hX]
      obtain rfl : i = L.length + 1 := by omega
      simp [tn_of, Function.comp_def]
    generalize hA : (List.replicate L.length (⟨#[]⟩ : ByteArray) ++ [⟨#[]⟩, s] ++ (ts ++ [s])) = TT at hT
    generalize hB : (List.replicate L.length false ++ [false, false] ++ (fs ++ [false])) = FF at hT
    have hTl : TT.length = 2 * L.length + 3 := by rw [← hA]; simp [e1]; omega
    have hFl : FF.length = 2 * L.length + 3 := by rw [← hB]; simp [e2]; omega
    have a1 : rdOf ByteArray.empty TT ((L.length + 1 : Nat) : Int) = s := by
      rw [rd_at _ _ (by omega)]
      simp only [← hA]
      rw [List.getElem_append_left (by simp), List.getElem_append_right (by simp)]
      simp
    have a2 : rdOf ByteArray.empty TT ((2 * L.length + 2 : Nat) : Int) = s := by
      rw [rd_at _ _ (by omega)]
      simp only [← hA]
      rw [List.getElem_append_right (by simp; omega), List.getElem_append_right (by simp; omega)]
      simp
    have b1 : rdOf false FF ((L.length + 1 : Nat) : Int) = false := by
      unfold rdOf
      rw [Int.toNat_natCast, List.getD_eq_getElem?_getD, ← hB, List.getElem?_append_left (by simp), List.getElem?_append_right (by simp)]
      simp
    have b2 : rdOf false FF ((2 * L.length + 2 : Nat) : Int) = false := by
      unfold rdOf
      rw [Int.toNat_natCast, List.getD_eq_getElem?_getD, ← hB, List.getElem?_append_right (by simp; omega), List.getElem?_append_right (by simp; omega)]
      simp [e2]
      rw [show 2 * L.length - L.length - L.length = 0 by omega]
      rfl
    have w1 : wrap64 ((L.length : Int) + 1) = ((L.length + 1 : Nat) : Int) := by rw [w64 (by omega) (by omega)]; omega
    have w2 : wrap64 ((X.length : Int) - 1) = ((2 * L.length + 2 : Nat) : Int) := by rw [w64 (by omega) (by omega)]; omega
    have HW := Lib.hid (And.intro w1 w2)
    clear w1 w2
    refine Ev.step (fun k => by rw [laws_FnHistoryEnds.l1, HW.out.1, HW.out.2]) (ev_ifn (by omega) ?_)
    refine ev_bind (ev_const hT) ?_
    simp only
    rw [a1, a2, b1, b2]
    refine ev_ifp (by omega) (ev_ifp (by omega) (ev_ifp (by omega) (ev_ifp (by omega) (ev_ifp rfl (ev_ifp (by omega) (ev_ifn (by simp) (ev_ifp (by omega) (ev_ifp (by omega) (ev_ifp rfl (ev_ifp (by omega) (Ev.now _)))))))))))
  | succ d ih =>
    intro i X hi hX
    have hXl : X.length = L.length + 2 + i := by rw [hX]; simp; omega
    have h := ih (i + 1) (X ++ [⟨2, s⟩]) (by omega) (by rw [hX, List.append_assoc, ← List.replicate_succ'])
    rw [show ((i + 1 : Nat) : Int) = (i : Int) + 1 from by omega] at h
    exact Ev.step (fun k => by rw [laws_FnHistoryEnds.l1, w64 (x := (i : Int) + 1) (by omega) (by omega)]) (ev_ifp (by omega) (ev_ifp (by omega) h))
theorem add_loop (L : List ByteArray) (s : ByteArray) (hn : L.length ≤ 8) (hz : ∀ x ∈ L, x.size ≤ 4611686018427387904) (d : Nat) : ∀ i : Nat, i + d = L.length → (∀ x ∈ L.take i, Asc x ∧ x.size ≤ 1000) → Ev (fun k => laws_FnHistoryEnds.l0 k L s ((L.take i).map fun x => (⟨1, x⟩ : S27)) (i : Int)) true := by
  induction d with
  | zero =>
    intro i hi hL
    rw [List.take_of_length_le (by omega)] at hL ⊢
    refine Ev.step (fun k => by rw [laws_FnHistoryEnds.l0]) ?_
    refine ev_ifn (by omega) ?_
    refine ev_bind (Ev.now _) ?_
    refine ev_ifp (by simp; omega) ?_
    exact end_loop L s hn hL (L.length + 1) 0 _ (by omega) (by simp)
  | succ d ih =>
    intro i hi hL
    have hlt : i < L.length := by omega
    obtain ⟨b, hb, hq⟩ := ascii_tells L[i] (hz _ (List.getElem_mem hlt))
    have hr := rd_at L i hlt
    refine Ev.step (fun k => by rw [laws_FnHistoryEnds.l0, hr, w64 (x := (i : Int) + 1) (by omega) (by omega)]) (ev_ifp (by omega) (ev_ifp (by omega) (ev_bind hb ?_)))
    cases b with
    | false => exact ev_ifn (by simp) (Ev.now _)
    | true =>
      obtain ⟨q1, q2⟩ := hq rfl
      have h := ih (i + 1) (by omega) (fun x hx => by
        rw [List.take_succ_eq_append_getElem hlt] at hx
        rcases List.mem_append.1 hx with h1 | h1
        · exact hL x h1
        · rw [List.mem_singleton] at h1; subst h1; exact ⟨q2, q1⟩)
      rw [List.take_succ_eq_append_getElem hlt, List.map_append, show ((i + 1 : Nat) : Int) = (i : Int) + 1 from by omega] at h
      exact ev_ifp rfl (ev_ifp (by rw [List.length_map, List.length_take]; omega) h)
theorem FnHistoryEnds : laws_FnHistoryEnds.Pure := by
  intro L s hl hz hs
  refine Ev.rounds (r := true) ?_
  unfold laws_FnHistoryEnds.f
  obtain ⟨t, ht, hfit⟩ := fits_tells L
  refine ev_bind ht ?_
  have far : Ev (fun k => laws_FnHistoryEnds.j0 k L s true) true := Ev.step (fun k => by rw [laws_FnHistoryEnds.j0]) (ev_ifp rfl (Ev.now _))
  have far1 : Ev (fun k => laws_FnHistoryEnds.j1 k L s true) true := Ev.step (fun k => by rw [laws_FnHistoryEnds.j1]) (ev_ifp rfl (Ev.now _))
  cases t with
  | false => exact ev_ifn (by simp) far
  | true =>
    refine ev_ifp rfl ?_
    by_cases h : (s.size : Int) > 2147483647
    · rw [decide_eq_true h]; exact far
    · rw [decide_eq_false h]
      refine Ev.step (fun k => by rw [laws_FnHistoryEnds.j0]) (ev_ifn Bool.false_ne_true ?_)
      by_cases h8 : (L.length : Int) > 8
      · exact ev_ifp h8 far1
      · obtain ⟨b, hb, hq⟩ := ascii_tells s (by omega)
        refine ev_ifn h8 (ev_bind hb ?_)
        cases b with
        | false => exact far1
        | true =>
          refine Ev.step (fun k => by rw [laws_FnHistoryEnds.j1]) (ev_ifn (by simp) ?_)
          exact add_loop L s (by omega) (hfit rfl) L.length 0 (by omega) (fun x hx => by simp at hx)
end Go.Proofs.Ythbdaoapjnofkaa.Pure
