/- The row and the column of a place, and the place of these: the pure statement behind the law FnRowColumn; no condition. -/
import Derived.Test.YthbdaoapjnofkaaPFnRowColumnx2
import Derived.Test.YthbdaoapjnofkaaXLines
namespace Go.Proofs.Ythbdaoapjnofkaa.Pure
open Go.RowKit Go.Proofs.Ythbdaoapjnofkaa.R Go.Proofs.Ythbdaoapjnofkaa.X Go.Proofs.Ythbdaoapjnofkaa.PFnRowColumn Go.Proofs.Ythbdaoapjnofkaa.H Go.Proofs.YthbdaoapjnofkaaW.PrintWords Go.Proofs.YthbdaoapjnofkaaW.PrintLast
set_option linter.unusedVariables false

theorem newline_tells (c : Int) : Ev (fun k => spec_hasByte.f k (⟨#[10]⟩ : ByteArray) c) (decide (c = 10)) := by
  have hb : bt (⟨#[10]⟩ : ByteArray) 0 = 10 := by decide
  have hz : ((⟨#[10]⟩ : ByteArray).size : Int) = 1 := rfl
  unfold spec_hasByte.f
  refine Ev.step (fun k => by rw [spec_hasByte.l0, hb, hz, w64 (x := (0 : Int) + 1) (by omega) (by omega)]) (ev_ifp (by omega) (ev_ifp (by omega) ?_))
  by_cases h : c = 10
  · rw [decide_eq_true h]; exact ev_ifp h.symm (ev_some rfl)
  · rw [decide_eq_false h]
    refine ev_ifn (fun h' => h h'.symm) (Ev.step (fun k => by rw [spec_hasByte.l0, hz]) (ev_ifn (by omega) (Ev.now _)))
theorem last_tells (s : ByteArray) (hs : s.size ≤ 4611686018427387904) : Ev (fun k => spec_last.f k s (⟨#[10]⟩ : ByteArray) false) (lastI (nlp s) s.size) := by
  unfold spec_last.f
  rw [w64 (x := (s.size : Int) - 1) (by omega) (by omega)]
  suffices h : ∀ n : Nat, n ≤ s.size → Ev (fun k => spec_last.l0 k s (⟨#[10]⟩ : ByteArray) false ((n : Int) - 1)) (lastI (nlp s) n) from h s.size (Nat.le_refl _)
  intro n
  induction n with
  | zero => intro _; exact Ev.step (fun k => by rw [spec_last.l0]) (ev_ifn (by omega) (ev_some (r := (-1 : Int)) rfl))
  | succ n ih =>
    intro hn
    rw [show ((n + 1 : Nat) : Int) - 1 = (n : Int) from by omega]
    refine Ev.step (fun k => by rw [spec_last.l0, w64 (x := (n : Int) - 1) (by omega) (by omega)]) (ev_ifp (by omega) (ev_ifp (by omega) (ev_ifp (by omega) (ev_bind (newline_tells _) ?_))))
    unfold lastI
    cases h : nlp s n with
    | true => exact ev_ifp (by unfold nlp at h; rw [h]; rfl) (Ev.now _)
    | false => exact ev_ifn (by unfold nlp at h; rw [h]; simp) (ih (by omega))
theorem first_tells (s : ByteArray) (hs : s.size ≤ 4611686018427387904) : Ev (fun k => spec_first.f k s (⟨#[10]⟩ : ByteArray) false) (firstI (nlp s) s.size 0) := by
  unfold spec_first.f
  suffices h : ∀ d i : Nat, i + d = s.size → Ev (fun k => spec_first.l0 k s (⟨#[10]⟩ : ByteArray) false (i : Int)) (firstI (nlp s) d i) from h s.size 0 (by omega)
  intro d
  induction d with
  | zero => intro i hi; exact Ev.step (fun k => by rw [spec_first.l0]) (ev_ifn (by omega) (ev_some (r := (-1 : Int)) rfl))
  | succ d ih =>
    intro i hi
    have h := ih (i + 1) (by omega)
    rw [show ((i + 1 : Nat) : Int) = (i : Int) + 1 from by omega] at h
    refine Ev.step (fun k => by rw [spec_first.l0, w64 (x := (i : Int) + 1) (by omega) (by omega)]) (ev_ifp (by omega) (ev_ifp (by omega) (ev_bind (newline_tells _) ?_)))
    unfold firstI
    cases h2 : nlp s i with
    | true => exact ev_ifp (by unfold nlp at h2; rw [h2]; rfl) (Ev.now _)
    | false => exact ev_ifn (by unfold nlp at h2; rw [h2]; simp) h
theorem index_tells (s : ByteArray) (hs : s.size ≤ 4611686018427387904) : Ev (fun k => PTranslateIndexToPosition.goprompt_zzIndex.f k s (⟨#[10]⟩ : ByteArray)) (firstI (nlp s) s.size 0) := by
  have hz : ((⟨#[10]⟩ : ByteArray).size : Int) = 1 := rfl
  unfold PTranslateIndexToPosition.goprompt_zzIndex.f
  suffices h : ∀ d i : Nat, i + d = s.size → Ev (fun k => PTranslateIndexToPosition.goprompt_zzIndex.l0 k s (⟨#[10]⟩ : ByteArray) (i : Int)) (firstI (nlp s) d i) from h s.size 0 (by omega)
  intro d
  induction d with
  | zero => intro i hi; exact Ev.step (fun k => by rw [PTranslateIndexToPosition.goprompt_zzIndex.l0, hz, w64 (x := (i : Int) + 1) (by omega) (by omega)]) (ev_ifn (by omega) (ev_some (r := (-1 : Int)) rfl))
  | succ d ih =>
    intro i hi
    have h := ih (i + 1) (by omega)
    rw [show ((i + 1 : Nat) : Int) = (i : Int) + 1 from by omega] at h
    refine Ev.step (fun k => by rw [PTranslateIndexToPosition.goprompt_zzIndex.l0, hz, w64 (x := (i : Int) + 1) (by omega) (by omega)]) (ev_ifp (by omega) (ev_ifp (by omega) (ev_ifp (by omega) ?_)))
    rw [show ((i : Int)).toNat = i from by omega, show ((i : Int) + 1).toNat = i + 1 from by omega]
    unfold firstI nlp
    by_cases h2 : bt s (i : Int) = 10
    · rw [decide_eq_true h2]; exact ev_ifp ((nl_at s i (by omega)).2 h2) (ev_some rfl)
    · rw [decide_eq_false h2]; exact ev_ifn (fun h' => h2 ((nl_at s i (by omega)).1 h')) h

theorem extract_size (s : ByteArray) (a b : Nat) (h : b ≤ s.size) : (s.extract a b).size = b - a := by
  rw [← ints_length, ints_extract, List.length_take, List.length_drop, ints_length]; omega
theorem specLines_tells : ∀ (n : Nat) (s : ByteArray) (acc : List ByteArray), s.size ≤ n → s.size + acc.length ≤ 100000 → ∃ L : List ByteArray, L.map ints = linesL (ints s) ∧ Ev (fun k => spec_Lines.l0 k s acc) (acc ++ L) := by
  intro n
  induction n with
  | zero =>
    intro s acc hn hb
    have hz : s.size = 0 := by omega
    refine ⟨[s], ?_, ?_⟩
    · have : ints s = [] := List.eq_nil_of_length_eq_zero (by rw [ints_length]; exact hz)
      simp [this, linesL]
    · refine Ev.step (fun k => by rw [spec_Lines.l0]) (ev_bind (first_tells s (by omega)) ?_)
      rw [hz]
      exact ev_ifp (by simp [firstI]) (ev_ifp (by omega) (Ev.now _))
  | succ n ih =>
    intro s acc hn hb
    rcases lines_step s with ⟨h1, h2⟩ | ⟨j, h1, h3, h2⟩
    · refine ⟨[s], by simp [h2], Ev.step (fun k => by rw [spec_Lines.l0]) (ev_bind (first_tells s (by omega)) ?_)⟩
      rw [h1]
      exact ev_ifp (by omega) (ev_ifp (by omega) (Ev.now _))
    · have hz := extract_size s (j + 1) s.size (Nat.le_refl _)
      obtain ⟨L, hL, hE⟩ := ih (s.extract (j + 1) s.size) (acc ++ [s.extract 0 j]) (by omega) (by rw [List.length_append]; simp; omega)
      refine ⟨s.extract 0 j :: L, by rw [List.map_cons, hL, h2], Ev.step (fun k => by rw [spec_Lines.l0]) (ev_bind (first_tells s (by omega)) ?_)⟩
      rw [h1, w64 (x := (j : Int) + 1) (by omega) (by omega)]
      refine ev_ifn (by omega) (ev_ifp (by omega) (ev_ifp (by omega) (ev_ifp (by omega) (ev_ifp (by omega) (ev_ifp (by omega) ?_)))))
      rw [show ((j : Int) + 1).toNat = j + 1 from by omega, show ((j : Int)).toNat = j from by omega]
      rw [List.append_assoc] at hE
      exact hE
theorem split_tells : ∀ (n : Nat) (s : ByteArray) (acc : List ByteArray), s.size ≤ n → s.size + acc.length ≤ 100000 → ∃ L : List ByteArray, L.map ints = linesL (ints s) ∧ Ev (fun k => PTranslateIndexToPosition.goprompt_zzSplit.l1 k s (⟨#[10]⟩ : ByteArray) acc) (acc ++ L) := by
  have hz1 : ((⟨#[10]⟩ : ByteArray).size : Int) = 1 := rfl
  intro n
  induction n with
  | zero =>
    intro s acc hn hb
    have hz : s.size = 0 := by omega
    refine ⟨[s], ?_, ?_⟩
    · have : ints s = [] := List.eq_nil_of_length_eq_zero (by rw [ints_length]; exact hz)
      simp [this, linesL]
    · refine Ev.step (fun k => by rw [PTranslateIndexToPosition.goprompt_zzSplit.l1]) (ev_bind (index_tells s (by omega)) ?_)
      rw [hz]
      exact ev_ifp (by simp [firstI]) (ev_ifp (by omega) (Ev.now _))
  | succ n ih =>
    intro s acc hn hb
    rcases lines_step s with ⟨h1, h2⟩ | ⟨j, h1, h3, h2⟩
    · refine ⟨[s], by simp [h2], Ev.step (fun k => by rw [PTranslateIndexToPosition.goprompt_zzSplit.l1]) (ev_bind (index_tells s (by omega)) ?_)⟩
      rw [h1]
      exact ev_ifp (by omega) (ev_ifp (by omega) (Ev.now _))
    · have hz := extract_size s (j + 1) s.size (Nat.le_refl _)
      obtain ⟨L, hL, hE⟩ := ih (s.extract (j + 1) s.size) (acc ++ [s.extract 0 j]) (by omega) (by rw [List.length_append]; simp; omega)
      refine ⟨s.extract 0 j :: L, by rw [List.map_cons, hL, h2], Ev.step (fun k => by rw [PTranslateIndexToPosition.goprompt_zzSplit.l1]) (ev_bind (index_tells s (by omega)) ?_)⟩
      rw [h1, hz1, w64 (x := (j : Int) + 1) (by omega) (by omega)]
      refine ev_ifn (by omega) (ev_ifp (by omega) (ev_ifp (by omega) (ev_ifp (by omega) (ev_ifp (by omega) (ev_ifp (by omega) ?_)))))
      rw [show ((j : Int) + 1).toNat = j + 1 from by omega, show ((j : Int)).toNat = j from by omega]
      rw [List.append_assoc] at hE
      exact hE
theorem lines_unique {L L' : List ByteArray} (h : L.map ints = L'.map ints) : L = L' := List.map_inj_right (fun x y h => ints_inj h) |>.1 h
/-- The lines of a text, as texts. -/
theorem doc_lines (s : ByteArray) (hs : s.size ≤ 1000) : ∃ L : List ByteArray, L.map ints = linesL (ints s) ∧ ∀ a, Ev (fun k => PTranslateIndexToPosition.goprompt_Document_Lines.f k s a) (L, s, a) := by
  obtain ⟨L, hL, hE⟩ := split_tells s.size s [] (Nat.le_refl _) (by simp; omega)
  refine ⟨L, hL, fun a => ?_⟩
  unfold PTranslateIndexToPosition.goprompt_Document_Lines.f PTranslateIndexToPosition.goprompt_zzSplit.f
  refine ev_bind (a := L) (ev_ifn (by decide) ?_) (Ev.now _)
  simpa using hE

theorem fill_lens (L : List ByteArray) (x3 : Int) (s : ByteArray) (a : Int) (R : List Int × ByteArray × Int) (hl : L.length ≤ 100000)
    (hE : Ev (fun k => (if 0 ≤ wrap64 (x3 + 1) then (if (wrap64 (x3 + 1)).toNat ≤ 35184372088832 then ((some (List.replicate (wrap64 (x3 + 1)).toNat 0 : List Int)).bind fun y129 => (if 0 < (y129.length : Int) then (PTranslateIndexToPosition.goprompt_Document_lineStartIndexes.l1 k x3 (y129.set (0 : Int).toNat 0) 0 (L.map fun x => (x.size : Int)) ((L.map fun x => (x.size : Int)).length : Int) 0 s a) else none)) else none) else none)) R) :
    ∀ d i : Nat, i + d = L.length → Ev (fun k => PTranslateIndexToPosition.goprompt_Document_lineStartIndexes.l0 k x3 (partL (L.map fun x => (x.size : Int)) i L.length) L (L.length : Int) (i : Int) s a) R := by
  intro d
  induction d with
  | zero =>
    intro i hi
    have e : i = L.length := by omega
    subst e
    refine Ev.step (fun k => by rw [PTranslateIndexToPosition.goprompt_Document_lineStartIndexes.l0]) (ev_ifn (by omega) ?_)
    rw [partL_all _ _ (by simp)]
    exact hE
  | succ d ih =>
    intro i hi
    have h := ih (i + 1) (by omega)
    rw [show ((i + 1 : Nat) : Int) = (i : Int) + 1 from by omega] at h
    have hp := partL_length (L.map fun x => (x.size : Int)) i L.length (by simp; omega) (by omega)
    refine Ev.step (fun k => by rw [PTranslateIndexToPosition.goprompt_Document_lineStartIndexes.l0, w64 (x := (i : Int) + 1) (by omega) (by omega)]) (ev_ifp (by omega) (ev_ifp (by omega) (ev_ifp (by omega) (ev_ifp (by rw [hp]; omega) ?_))))
    have hset := partL_set (L.map fun x => (x.size : Int)) i L.length (by simp; omega) (by omega)
    have hrd : (((rdOf ByteArray.empty L (i : Int)).size : Nat) : Int) = (L.map fun x => (x.size : Int))[i]'(by simp; omega) := by
      unfold rdOf
      rw [show ((i : Int)).toNat = i from by omega, List.getD_eq_getElem?_getD, List.getElem?_eq_getElem (by omega)]
      simp
    rw [show ((i : Int)).toNat = i from by omega, hrd, hset]
    exact h
theorem fill_starts (L : List (List Int)) (x3 : Int) (s : ByteArray) (a : Int) (R : List Int × ByteArray × Int) (hl : L.length ≤ 100000) (hj : (joinL L).length ≤ 1000000)
    (hE : Ev (fun k => (if x3 > 1 then (if 0 ≤ x3 then (if x3 ≤ ((startsL L).length : Int) then (some (((startsL L).take x3.toNat), s, a)) else none) else none) else (some (startsL L, s, a)))) R) :
    ∀ d i : Nat, i + d = L.length → Ev (fun k => PTranslateIndexToPosition.goprompt_Document_lineStartIndexes.l1 k x3 (partL (startsL L) (i + 1) (L.length + 1)) ((joinL (L.take i)).length : Int) (L.map fun x => (x.length : Int)) (L.length : Int) (i : Int) s a) R := by
  intro d
  induction d with
  | zero =>
    intro i hi
    have e : i = L.length := by omega
    subst e
    refine Ev.step (fun k => by rw [PTranslateIndexToPosition.goprompt_Document_lineStartIndexes.l1]) (ev_ifn (by omega) ?_)
    rw [partL_all _ _ (startsL_length L)]
    exact hE
  | succ d ih =>
    intro i hi
    have h := ih (i + 1) (by omega)
    have hs := join_succ L i (by omega)
    have hm := join_mono L (i := i + 1) (j := L.length) (by omega)
    rw [List.take_length] at hm
    rw [show ((i + 1 : Nat) : Int) = (i : Int) + 1 from by omega] at h
    have hp := partL_length (startsL L) (i + 1) (L.length + 1) (by rw [startsL_length]; omega) (by omega)
    have hrd : rd (L.map fun x => (x.length : Int)) (i : Int) = (L[i].length : Int) := by
      rw [rd_nat _ i (by simp; omega)]; simp
    refine Ev.step (fun k => by rw [PTranslateIndexToPosition.goprompt_Document_lineStartIndexes.l1, w64 (x := (i : Int) + 1) (by omega) (by omega), hrd, w64 (x := (L[i].length : Int) + 1) (by omega) (by omega), w64 (x := ((joinL (L.take i)).length : Int) + ((L[i].length : Int) + 1)) (by omega) (by omega)]) (ev_ifp (by omega) (ev_ifp (by omega) (ev_ifp (by simp; omega) (ev_ifp (by omega) (ev_ifp (by rw [hp]; omega) ?_)))))
    have hset := partL_set (startsL L) (i + 1) (L.length + 1) (by rw [startsL_length]; omega) (by omega)
    rw [startsL_at L (i + 1) (by omega), hs] at hset
    rw [show ((i : Int) + 1).toNat = i + 1 from by omega, show ((joinL (L.take i)).length : Int) + ((L[i].length : Int) + 1) = (((joinL (L.take i)).length + L[i].length + 1 : Nat) : Int) from by omega, hset]
    rw [hs] at h
    exact h
def idxL (L : List (List Int)) : List Int := if L.length > 1 then (startsL L).take L.length else startsL L
theorem indexes_tells (s : ByteArray) (a : Int) (hs : s.size ≤ 1000) : Ev (fun k => PTranslateIndexToPosition.goprompt_Document_lineStartIndexes.f k s a) (idxL (linesL (ints s)), s, a) := by
  obtain ⟨L, hL, hE⟩ := doc_lines s hs
  have hjoin := linesL_join (ints s)
  have hcnt := linesL_count (ints s)
  have hz := ints_length s
  have hc1 : (ints s).count 10 ≤ (ints s).length := List.count_le_length
  have hlen : L.length = (linesL (ints s)).length := by rw [← hL, List.length_map]
  have hmap : (L.map fun x => (x.size : Int)) = (linesL (ints s)).map fun x => (x.length : Int) := by
    rw [← hL, List.map_map]
    refine List.map_congr_left fun x _ => ?_
    show (x.size : Int) = ((ints x).length : Int)
    rw [ints_length]
  have hjl : (joinL (linesL (ints s))).length = s.size + 1 := by rw [hjoin, List.length_append, hz]; rfl
  unfold PTranslateIndexToPosition.goprompt_Document_lineStartIndexes.f PTranslateIndexToPosition.goprompt_Document_LineCount.f
  refine ev_bind (a := ((L.length : Int), s, a)) (ev_bind (hE a) (Ev.now _)) (ev_ifp (by simp only; omega) (ev_ifp (by simp only; omega) (ev_bind (hE a) ?_)))
  simp only
  rw [show ((L.length : Int)).toNat = L.length from by omega]
  have h0 := fill_lens L (L.length : Int) s a (idxL (linesL (ints s)), s, a) (by omega) ?_ L.length 0 (by omega)
  · rw [partL_zero] at h0; exact h0
  · rw [w64 (x := (L.length : Int) + 1) (by omega) (by omega), show ((L.length : Int) + 1).toNat = L.length + 1 from by omega]
    refine ev_ifp (by omega) (ev_ifp (by omega) ?_)
    simp only [Option.bind_some]
    refine ev_ifp (by simp) ?_
    have h1 := fill_starts (linesL (ints s)) (L.length : Int) s a (idxL (linesL (ints s)), s, a) (by omega) (by omega) ?_ (linesL (ints s)).length 0 (by omega)
    · rw [← hmap] at h1
      rw [List.length_map, hlen]
      rw [hlen] at h1
      have e0 : partL (startsL (linesL (ints s))) (0 + 1) ((linesL (ints s)).length + 1) = (List.replicate ((linesL (ints s)).length + 1) 0).set (0 : Int).toNat 0 := by
        have := partL_set (startsL (linesL (ints s))) 0 ((linesL (ints s)).length + 1) (by rw [startsL_length]; omega) (by omega)
        rw [startsL_at _ 0 (by omega), partL_zero] at this
        rw [← this]
        rfl
      rw [e0] at h1
      exact h1
    · unfold idxL
      rw [hlen, startsL_length]
      by_cases h : (linesL (ints s)).length > 1
      · rw [if_pos h]; exact ev_ifp (by omega) (ev_ifp (by omega) (ev_ifp (by omega) (Ev.now _)))
      · rw [if_neg h]; exact ev_ifn (by omega) (Ev.now _)

theorem cnt_is (v : Int) : ∀ (l : List Int) (m : Nat), m ≤ l.length → (∀ h, h < l.length → (l.getD h 0 ≤ v ↔ h < m)) → cntLe l v = m
  | [], m, hm, _ => by simp at hm; subst hm; rfl
  | x :: l, m, hm, h => by
    have h0 := h 0 (by simp)
    simp only [List.getD_cons_zero] at h0
    cases m with
    | zero =>
      have hx : ¬ x ≤ v := fun e => absurd (h0.1 e) (by omega)
      have ih := cnt_is v l 0 (by omega) (fun j hj => by
        have := h (j + 1) (by simpa using hj)
        simpa using this)
      unfold cntLe at ih ⊢
      rw [List.filter_cons_of_neg (by simpa using hx)]
      exact ih
    | succ m =>
      have hx : x ≤ v := h0.2 (by omega)
      have ih := cnt_is v l m (by simpa using hm) (fun j hj => by
        have := h (j + 1) (by simpa using hj)
        simpa using this)
      unfold cntLe at ih ⊢
      rw [List.filter_cons_of_pos (by simpa using hx), List.length_cons, ih]

theorem ascii_loop (s : ByteArray) (hs : s.size ≤ 4611686018427387904) (d : Nat) : ∀ i : Nat, i + d = s.size →
    ∃ b, Ev (fun k => spec_ASCII.l0 k s (i : Int)) b ∧ (b = true → s.size ≤ 1000 ∧ ∀ j (hj : j < s.size), i ≤ j → (s.data.toList[j]'(by rw [dlen]; exact hj)).toNat < 128) := by
  induction d with
  | zero =>
    intro i hi
    exact ⟨decide ((s.size : Int) ≤ 1000), Ev.step (fun k => by rw [spec_ASCII.l0]) (ev_ifn (by omega) (Ev.now _)), fun h => ⟨by have := of_decide_eq_true h; omega, fun j hj h => by omega⟩⟩
  | succ d ih =>
    intro i hi
    obtain ⟨b, hb, hq⟩ := ih (i + 1) (by omega)
    rw [show ((i + 1 : Nat) : Int) = (i : Int) + 1 from by omega] at hb
    have e1 := bt_nat s i (by omega)
    by_cases h : (128 : Int) ≤ bt s (i : Int)
    · exact ⟨false, Ev.step (fun k => by rw [spec_ASCII.l0]) (ev_ifp (by omega) (ev_ifp (by omega) (ev_ifp h (Ev.now _)))), fun h => by cases h⟩
    · refine ⟨b, Ev.step (fun k => by rw [spec_ASCII.l0, w64 (x := (i : Int) + 1) (by omega) (by omega)]) (ev_ifp (by omega) (ev_ifp (by omega) (ev_ifn h hb))), fun hbt => ⟨(hq hbt).1, fun j hj hij => ?_⟩⟩
      rcases Nat.eq_or_lt_of_le hij with rfl | hlt
      · omega
      · exact (hq hbt).2 j hj hlt
theorem right_tells (s : ByteArray) (a : Int) (hs : s.size ≤ 4611686018427387904) : ∃ b, Ev (fun k => spec_DocRight.f k s a) b ∧ (b = true → s.size ≤ 1000 ∧ Asc s ∧ 0 ≤ a ∧ a ≤ s.size) := by
  obtain ⟨b, hb, hq⟩ := ascii_loop s hs s.size 0 (by omega)
  unfold spec_DocRight.f spec_ASCII.f
  cases b with
  | false => exact ⟨false, ev_bind hb (ev_ifn (by simp) (Ev.now _)), fun h => by cases h⟩
  | true =>
    have hasc : Asc s := fun x hx => by
      obtain ⟨j, hj, rfl⟩ := List.getElem_of_mem hx
      exact (hq rfl).2 j (by rw [← dlen]; exact hj) (Nat.zero_le _)
    by_cases h0 : a ≥ 0
    · refine ⟨decide (a ≤ (s.size : Int)), ev_bind hb (ev_ifp rfl (ev_ifp h0 (Ev.now _))), fun h => ⟨(hq rfl).1, hasc, h0, of_decide_eq_true h⟩⟩
    · exact ⟨false, ev_bind hb (ev_ifp rfl (ev_ifn h0 (Ev.now _))), fun h => by cases h⟩

/-- A place's row and column: r lines ahead of it, which with their line feeds take g signs. -/
structure At (s : ByteArray) (n r g : Nat) (line : List Int) : Prop where
  row : (linesL (ints s)).getD r [] = line
  lt : r < (linesL (ints s)).length
  start : (joinL ((linesL (ints s)).take r)).length = g
  le : g ≤ n
  within : n - g ≤ line.length
  rows : ((ints s).take n).count 10 = r
  nl : g = 0 ∨ ((ints s).take n)[g - 1]? = some 10
  free : ∀ i x, g ≤ i → ((ints s).take n)[i]? = some x → x ≠ 10
theorem at_place (s : ByteArray) (n : Nat) (hn : n ≤ s.size) : ∃ r g line, At s n r g line := by
  obtain ⟨A, h, B, h1, h2, h3, h4⟩ := linesL_place (ints s) n (by rw [ints_length]; exact hn)
  have hfree := linesL_free (ints s)
  rw [h1] at hfree
  have hA : ∀ a ∈ A, 10 ∉ a := fun a ha => hfree a (by simp [ha])
  have hh : 10 ∉ h := hfree h (by simp)
  have hjt : (linesL (ints s)).take A.length = A := by rw [h1, List.take_left]
  refine ⟨A.length, (joinL A).length, h, ?_, ?_, by rw [hjt], h2, h3, ?_, ?_, ?_⟩
  · rw [h1, List.getD_eq_getElem?_getD, List.getElem?_append_right (Nat.le_refl _)]; simp
  · rw [h1]; simp
  · rw [h4, List.count_append, joinL_count A hA, List.count_eq_zero_of_not_mem (fun hm => hh (List.mem_of_mem_take hm))]; rfl
  · cases A with
    | nil => exact .inl rfl
    | cons a A =>
      right
      have e : ∃ P, joinL (a :: A) = P ++ [10] := by
        refine ⟨joinL ((a :: A).dropLast) ++ (a :: A).getLast (by simp), ?_⟩
        have := List.dropLast_concat_getLast (l := a :: A) (by simp)
        conv => lhs; rw [← this, joinL_append]
        simp [joinL]
      obtain ⟨P, hP⟩ := e
      rw [h4, hP]
      simp
  · intro i x hi hx e
    rw [h4, List.getElem?_append_right hi] at hx
    exact hh (e ▸ List.mem_of_mem_take (List.mem_of_getElem? hx))

theorem idx_le (s : ByteArray) (n r g : Nat) (line : List Int) (h : At s n r g line) : r < (idxL (linesL (ints s))).length ∧ rd (idxL (linesL (ints s))) (r : Int) = (g : Int) ∧ Cut (idxL (linesL (ints s))) (n : Int) ∧ cntLe (idxL (linesL (ints s))) (n : Int) = r + 1 ∧ (idxL (linesL (ints s))).length ≤ (linesL (ints s)).length + 1 := by
  generalize hLL : linesL (ints s) = LL at *
  have hlt := h.lt
  have hst := h.start
  have hrow := h.row
  rw [hLL] at hlt hst hrow
  have hT := startsL_length LL
  have hlen : (idxL LL).length = LL.length ∧ LL.length > 1 ∨ (idxL LL).length = LL.length + 1 ∧ LL.length = 1 := by
    unfold idxL
    by_cases hc : LL.length > 1
    · rw [if_pos hc]; left; rw [List.length_take, hT]; omega
    · rw [if_neg hc]; right; rw [hT]; omega
  have hat : ∀ i, i < (idxL LL).length → (idxL LL).getD i 0 = ((joinL (LL.take i)).length : Int) := by
    intro i hi
    have hi2 : i < (startsL LL).length := by omega
    have e : (idxL LL)[i]? = (startsL LL)[i]? := by
      unfold idxL at hi ⊢
      split
      · rename_i hc
        rw [if_pos hc] at hi
        rw [List.length_take] at hi
        rw [List.getElem?_take_of_lt (by omega)]
      · rfl
    rw [List.getD_eq_getElem?_getD, e, List.getElem?_eq_getElem hi2, startsL_at LL i (by omega)]
    rfl
  have hline : LL[r].length = line.length := by
    rw [List.getD_eq_getElem?_getD, List.getElem?_eq_getElem hlt] at hrow
    rw [← hrow]; rfl
  have hs := join_succ LL r hlt
  have hle := h.le
  have hwi := h.within
  have hcmp : ∀ i, i < (idxL LL).length → ((idxL LL).getD i 0 ≤ (n : Int) ↔ i < r + 1) := by
    intro i hi
    rw [hat i hi]
    by_cases hir : i ≤ r
    · have := join_mono LL hir
      exact ⟨fun _ => by omega, fun _ => by omega⟩
    · have := join_mono LL (i := r + 1) (j := i) (by omega)
      exact ⟨fun hx => by omega, fun hx => by omega⟩
  have hr : r < (idxL LL).length := by omega
  have hc := cnt_is (n : Int) (idxL LL) (r + 1) (by omega) hcmp
  refine ⟨hr, ?_, fun i hi => by rw [hcmp i hi, hc], hc, by omega⟩
  unfold rd
  rw [show ((r : Int)).toNat = r from by omega, hat r hr, hst]

/-- What RowColumn and Index tell. -/
theorem position_tells (s : ByteArray) (n r g : Nat) (line : List Int) (hs : s.size ≤ 1000) (hn : n ≤ s.size) (h : At s n r g line) : Ev (fun k => impl_RowColumn.f k s (n : Int)) ((r : Int), ((n : Int) - g), true) := by
  obtain ⟨h1, h2, h3, h4, h5⟩ := idx_le s n r g line h
  have hcnt := linesL_count (ints s)
  have hz := ints_length s
  have hc1 : (ints s).count 10 ≤ (ints s).length := List.count_le_length
  have hle := h.le
  unfold impl_RowColumn.f PTranslateIndexToPosition.goprompt_Document_TranslateIndexToPosition.f PTranslateIndexToPosition.goprompt_Document_findLineStartIndex.f
  refine ev_bind (a := ((r : Int), (n : Int) - g, s, (0 : Int))) (ev_bind (a := ((r : Int), (g : Int), s, (0 : Int))) (ev_bind (indexes_tells s 0 hs) ?_) (ev_some ?_)) (Ev.now _)
  · have e : bisect_Right.f (idxL (linesL (ints s))) (n : Int) = some ((r + 1 : Nat) : Int) := by
      unfold bisect_Right.f
      rw [if_pos ⟨h3, by omega⟩, h4]
    simp only [e, Option.bind_some]
    rw [w64 (x := ((r + 1 : Nat) : Int) - 1) (by omega) (by omega), show ((r + 1 : Nat) : Int) - 1 = (r : Int) from by omega, h2]
    exact ev_ifp (by omega) (ev_ifp (by omega) (Ev.now _))
  · simp only; rw [w64 (by omega) (by omega)]
theorem back_tells (s : ByteArray) (n r g : Nat) (line : List Int) (hs : s.size ≤ 1000) (hn : n ≤ s.size) (h : At s n r g line) : Ev (fun k => impl_Index.f k s (r : Int) ((n : Int) - g)) ((n : Int), true) := by
  obtain ⟨h1, h2, h3, h4, h5⟩ := idx_le s n r g line h
  obtain ⟨L, hL, hE⟩ := doc_lines s hs
  have hle := h.le
  have hwi := h.within
  have hlt := h.lt
  have hrow := h.row
  have hlen : L.length = (linesL (ints s)).length := by rw [← hL, List.length_map]
  have hline : ((rdOf ByteArray.empty L (r : Int)).size) = line.length := by
    unfold rdOf
    rw [show ((r : Int)).toNat = r from by omega, List.getD_eq_getElem?_getD, List.getElem?_eq_getElem (by omega)]
    rw [← hL, List.getD_eq_getElem?_getD, List.getElem?_map, List.getElem?_eq_getElem (by omega)] at hrow
    rw [← hrow]
    simp [ints_length]
  unfold impl_Index.f PTranslateIndexToPosition.goprompt_Document_TranslateRowColToIndex.f
  refine ev_bind (a := ((n : Int), s, (0 : Int))) (ev_bind (indexes_tells s 0 hs) (ev_ifn (by omega) (ev_ifn (by simp only; omega) ?_))) (Ev.now _)
  have h2e : Ev (fun k => PTranslateIndexToPosition.goprompt_Document_TranslateRowColToIndex.j2 k (n : Int) s 0) ((n : Int), s, (0 : Int)) :=
    Ev.step (fun k => by rw [PTranslateIndexToPosition.goprompt_Document_TranslateRowColToIndex.j2]) (ev_ifn (by omega) (ev_ifn (by omega) (Ev.now _)))
  refine Ev.step (fun k => by rw [PTranslateIndexToPosition.goprompt_Document_TranslateRowColToIndex.j0]) (ev_ifp (by omega) (ev_ifp (by simp only; omega) (ev_bind (hE 0) (ev_ifp (show (r : Int) < (L.length : Int) by omega) ?_))))
  simp only
  rw [h2]
  by_cases hp : (n : Int) - g > 0
  · refine ev_ifp hp (Ev.step (fun k => by rw [PTranslateIndexToPosition.goprompt_Document_TranslateRowColToIndex.j1]) (ev_ifp rfl (ev_ifn (by rw [hline]; omega) ?_)))
    rw [w64 (by omega) (by omega), show (g : Int) + ((n : Int) - g) = (n : Int) from by omega]
    exact h2e
  · refine ev_ifn hp (Ev.step (fun k => by rw [PTranslateIndexToPosition.goprompt_Document_TranslateRowColToIndex.j1]) ?_)
    have hg : (g : Int) = (n : Int) := by omega
    by_cases hq : decide (((rdOf ByteArray.empty L (r : Int)).size : Int) > 0) = true
    · refine ev_ifp hq (ev_ifn (by rw [hline]; omega) ?_)
      rw [w64 (by omega) (by omega), show (g : Int) + ((n : Int) - g) = (n : Int) from by omega]
      exact h2e
    · refine ev_ifn hq ?_
      rw [hg]; exact h2e
theorem row_tells (s : ByteArray) (n r g : Nat) (line : List Int) (hs : s.size ≤ 1000) (hasc : Asc s) (hn : n ≤ s.size) (h : At s n r g line) : Ev (fun k => spec_Row.f k s (n : Int)) (r : Int) ∧ Ev (fun k => spec_Column.f k s (n : Int)) ((n : Int) - g) := by
  have hr := runesOf_asc hasc
  have hl := ints_length s
  have hle := h.le
  have eB : spec_Before.f s (n : Int) = some (runesBytes ((runesOf s).take n)) := by
    unfold spec_Before.f
    rw [if_pos (by rw [hr]; omega)]
    simp only [Option.bind_some]
    rw [if_pos (by omega), if_pos (by rw [hr, hl]; omega), show ((n : Int)).toNat = n from by omega]
  have eA : ints (runesBytes ((runesOf s).take n)) = (ints s).take n := by rw [hr, ints_runesBytes _ (fun x hx => asc_ints hasc x (List.mem_of_mem_take hx))]
  have hAasc : Asc (runesBytes ((runesOf s).take n)) := by
    intro b hb
    have : (b.toNat : Int) ∈ ints (runesBytes ((runesOf s).take n)) := List.mem_map.2 ⟨b, hb, rfl⟩
    rw [eA] at this
    have := (asc_ints hasc _ (List.mem_of_mem_take this)).2
    omega
  have hAz : (runesBytes ((runesOf s).take n)).size = n := by rw [← ints_length, eA, List.length_take]; omega
  generalize runesBytes ((runesOf s).take n) = A at *
  constructor
  · unfold spec_Row.f
    rw [eB]
    simp only [Option.bind_some]
    obtain ⟨L, hL, hE⟩ := specLines_tells A.size A [] (Nat.le_refl _) (by simp; omega)
    unfold spec_Lines.f
    refine ev_bind hE (ev_some ?_)
    have e : (([] : List ByteArray) ++ L).length = r + 1 := by
      rw [List.nil_append, ← List.length_map (f := ints), hL, linesL_count, eA, h.rows]
    have hrn : r ≤ n := by
      have h1 := h.rows
      have h2 : ((ints s).take n).count 10 ≤ ((ints s).take n).length := List.count_le_length
      rw [List.length_take] at h2
      omega
    rw [e, w64 (by omega) (by omega)]; omega
  · unfold spec_Column.f spec_LineBefore.f
    rw [eB]
    simp only [Option.bind_some]
    have hlast : lastI (nlp A) A.size = (g : Int) - 1 := by
      refine lastI_is _ g _ (by omega) (fun i h1 h2 => ?_) ?_
      · have hx := bt_list A i h2
        unfold nlp
        have hi : ((ints s).take n)[i]? = some (bt A (i : Int)) := by rw [← eA, hx, List.getElem?_eq_getElem]
        exact decide_eq_false (h.free i _ h1 hi)
      · rcases h.nl with h0 | h0
        · exact .inl h0
        · by_cases hg : g = 0
          · exact .inl hg
          · right
            have hx := bt_list A (g - 1) (by omega)
            unfold nlp
            rw [← eA, List.getElem?_eq_getElem (by rw [ints_length]; omega)] at h0
            exact decide_eq_true (hx.trans (Option.some.inj h0))
    refine ev_bind (a := A.extract g A.size) (ev_bind (last_tells A (by omega)) ?_) ?_
    · rw [hlast, w64 (x := (g : Int) - 1 + 1) (by omega) (by omega), show (g : Int) - 1 + 1 = (g : Int) from by omega]
      refine ev_ifp (by omega) (ev_ifp (by omega) (ev_some ?_))
      rw [show ((g : Int)).toNat = g from by omega]
    · have hx := asc_extract hAasc g A.size
      have hz := extract_size A g A.size (Nat.le_refl _)
      have hr2 := runesOf_asc hx
      unfold spec_count.f
      rw [hr2, ints_length, hz]
      refine ev_bind (a := ((A.size - g : Nat) : Int)) (ev_ifp (by omega) (Ev.now _)) (ev_some ?_)
      omega

theorem FnRowColumn : laws_FnRowColumn.Pure := by
  intro s a hs ha
  refine Ev.rounds (r := true) ?_
  unfold laws_FnRowColumn.f
  have e0 : ∃ t, laws_zzFits2.f s a = some t ∧ (t = true → s.size ≤ 2147483647) := by
    unfold laws_zzFits2.f
    by_cases h : (s.size : Int) > 2147483647
    · exact ⟨false, if_pos h, by simp⟩
    · exact ⟨true, if_neg h, fun _ => by omega⟩
  obtain ⟨t, ht, hq⟩ := e0
  rw [ht]
  simp only [Option.bind_some]
  cases t with
  | false => exact ev_ifn (by simp) (Ev.now _)
  | true =>
    refine ev_ifp rfl ?_
    have hz := hq rfl
    obtain ⟨b, hb, q⟩ := right_tells s a (by omega)
    refine ev_bind hb ?_
    cases b with
    | false => exact ev_ifn (by simp) (Ev.now _)
    | true =>
      obtain ⟨g1, hasc, g2, g3⟩ := q rfl
      obtain ⟨n, rfl⟩ := Int.eq_ofNat_of_zero_le g2
      have hn : n ≤ s.size := by omega
      obtain ⟨r, g, line, hat⟩ := at_place s n hn
      obtain ⟨hrow, hcol⟩ := row_tells s n r g line g1 hasc hn hat
      refine ev_ifp rfl (ev_bind (position_tells s n r g line g1 hn hat) (ev_bind (back_tells s n r g line g1 hn hat) (ev_ifp rfl (ev_ifp rfl (ev_bind hrow (ev_ifp rfl (ev_bind hcol (ev_ifp rfl (ev_some ?_)))))))))
      simp
end Go.Proofs.Ythbdaoapjnofkaa.Pure
