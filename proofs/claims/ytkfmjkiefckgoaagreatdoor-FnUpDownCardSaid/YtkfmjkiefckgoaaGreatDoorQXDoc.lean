/- What a document's functions tell of a text of ASCII: its lines, where they begin, and what stands around a cursor; plain laws over the printed functions. -/
import Derived.Test.YtkfmjkiefckgoaaGreatDoorQPAroundOfx3
import Derived.Test.YtkfmjkiefckgoaaGreatDoorQXLines
namespace Go.Proofs.YtkfmjkiefckgoaaGreatDoor.X
open Go.RowKit Go.Proofs.YtkfmjkiefckgoaaGreatDoor.R Go.Proofs.YtkfmjkiefckgoaaGreatDoor.H Go.Proofs.YtkfmjkiefckgoaaGreatDoorW.PrintWords Go.Proofs.YtkfmjkiefckgoaaGreatDoorW.PrintLast
set_option linter.unusedVariables false
theorem index_tells (s : ByteArray) (hs : s.size ≤ 4611686018427387904) : Ev (fun k => PAroundOf.goprompt_zzIndex.f k s (⟨#[10]⟩ : ByteArray)) (firstI (nlp s) s.size 0) := by
  have hz : ((⟨#[10]⟩ : ByteArray).size : Int) = 1 := rfl
  unfold PAroundOf.goprompt_zzIndex.f
  suffices h : ∀ d i : Nat, i + d = s.size → Ev (fun k => PAroundOf.goprompt_zzIndex.l0 k s (⟨#[10]⟩ : ByteArray) (i : Int)) (firstI (nlp s) d i) from h s.size 0 (by omega)
  intro d
  induction d with
  | zero => intro i hi; exact Ev.step (fun k => by rw [PAroundOf.goprompt_zzIndex.l0, hz, w64 (x := (i : Int) + 1) (by omega) (by omega)]) (ev_ifn (by omega) (ev_some (r := (-1 : Int)) rfl))
  | succ d ih =>
    intro i hi
    have h := ih (i + 1) (by omega)
    rw [show ((i + 1 : Nat) : Int) = (i : Int) + 1 from by omega] at h
    refine Ev.step (fun k => by rw [PAroundOf.goprompt_zzIndex.l0, hz, w64 (x := (i : Int) + 1) (by omega) (by omega)]) (ev_ifp (by omega) (ev_ifp (by omega) (ev_ifp (by omega) ?_)))
    rw [show ((i : Int)).toNat = i from by omega, show ((i : Int) + 1).toNat = i + 1 from by omega]
    unfold firstI nlp
    by_cases h2 : bt s (i : Int) = 10
    · rw [decide_eq_true h2]; exact ev_ifp ((nl_at s i (by omega)).2 h2) (ev_some rfl)
    · rw [decide_eq_false h2]; exact ev_ifn (fun h' => h2 ((nl_at s i (by omega)).1 h')) h
theorem extract_size (s : ByteArray) (a b : Nat) (h : b ≤ s.size) : (s.extract a b).size = b - a := by
  rw [← ints_length, ints_extract, List.length_take, List.length_drop, ints_length]; omega
theorem split_tells : ∀ (n : Nat) (s : ByteArray) (acc : List ByteArray), s.size ≤ n → s.size + acc.length ≤ 100000 → ∃ L : List ByteArray, L.map ints = linesL (ints s) ∧ Ev (fun k => PAroundOf.goprompt_zzSplit.l1 k s (⟨#[10]⟩ : ByteArray) acc) (acc ++ L) := by
  have hz1 : ((⟨#[10]⟩ : ByteArray).size : Int) = 1 := rfl
  intro n
  induction n with
  | zero =>
    intro s acc hn hb
    have hz : s.size = 0 := by omega
    refine ⟨[s], ?_, ?_⟩
    · have : ints s = [] := List.eq_nil_of_length_eq_zero (by rw [ints_length]; exact hz)
      simp [this, linesL]
    · refine Ev.step (fun k => by rw [PAroundOf.goprompt_zzSplit.l1]) (ev_bind (index_tells s (by omega)) ?_)
      rw [hz]
      exact ev_ifp (by simp [firstI]) (ev_ifp (by omega) (Ev.now _))
  | succ n ih =>
    intro s acc hn hb
    rcases lines_step s with ⟨h1, h2⟩ | ⟨j, h1, h3, h2⟩
    · refine ⟨[s], by simp [h2], Ev.step (fun k => by rw [PAroundOf.goprompt_zzSplit.l1]) (ev_bind (index_tells s (by omega)) ?_)⟩
      rw [h1]
      exact ev_ifp (by omega) (ev_ifp (by omega) (Ev.now _))
    · have hz := extract_size s (j + 1) s.size (Nat.le_refl _)
      obtain ⟨L, hL, hE⟩ := ih (s.extract (j + 1) s.size) (acc ++ [s.extract 0 j]) (by omega) (by rw [List.length_append]; simp; omega)
      refine ⟨s.extract 0 j :: L, by rw [List.map_cons, hL, h2], Ev.step (fun k => by rw [PAroundOf.goprompt_zzSplit.l1]) (ev_bind (index_tells s (by omega)) ?_)⟩
      rw [h1, hz1, w64 (x := (j : Int) + 1) (by omega) (by omega)]
      refine ev_ifn (by omega) (ev_ifp (by omega) (ev_ifp (by omega) (ev_ifp (by omega) (ev_ifp (by omega) (ev_ifp (by omega) ?_)))))
      rw [show ((j : Int) + 1).toNat = j + 1 from by omega, show ((j : Int)).toNat = j from by omega]
      rw [List.append_assoc] at hE
      exact hE
theorem lines_unique {L L' : List ByteArray} (h : L.map ints = L'.map ints) : L = L' := List.map_inj_right (fun x y h => ints_inj h) |>.1 h
theorem doc_lines (s : ByteArray) (hs : s.size ≤ 5000) : ∃ L : List ByteArray, L.map ints = linesL (ints s) ∧ ∀ a, Ev (fun k => PAroundOf.goprompt_Document_Lines.f k s a) (L, s, a) := by
  obtain ⟨L, hL, hE⟩ := split_tells s.size s [] (Nat.le_refl _) (by simp; omega)
  refine ⟨L, hL, fun a => ?_⟩
  unfold PAroundOf.goprompt_Document_Lines.f PAroundOf.goprompt_zzSplit.f
  refine ev_bind (a := L) (ev_ifn (by decide) ?_) (Ev.now _)
  simpa using hE
theorem fill_lens (L : List ByteArray) (x3 : Int) (s : ByteArray) (a : Int) (R : List Int × ByteArray × Int) (hl : L.length ≤ 100000)
    (hE : Ev (fun k => (if 0 ≤ wrap64 (x3 + 1) then (if (wrap64 (x3 + 1)).toNat ≤ 35184372088832 then ((some (List.replicate (wrap64 (x3 + 1)).toNat 0 : List Int)).bind fun y129 => (if 0 < (y129.length : Int) then (PAroundOf.goprompt_Document_lineStartIndexes.l1 k x3 (y129.set (0 : Int).toNat 0) 0 (L.map fun x => (x.size : Int)) ((L.map fun x => (x.size : Int)).length : Int) 0 s a) else none)) else none) else none)) R) :
    ∀ d i : Nat, i + d = L.length → Ev (fun k => PAroundOf.goprompt_Document_lineStartIndexes.l0 k x3 (partL (L.map fun x => (x.size : Int)) i L.length) L (L.length : Int) (i : Int) s a) R := by
  intro d
  induction d with
  | zero =>
    intro i hi
    have e : i = L.length := by omega
    subst e
    refine Ev.step (fun k => by rw [PAroundOf.goprompt_Document_lineStartIndexes.l0]) (ev_ifn (by omega) ?_)
    rw [partL_all _ _ (by simp)]
    exact hE
  | succ d ih =>
    intro i hi
    have h := ih (i + 1) (by omega)
    rw [show ((i + 1 : Nat) : Int) = (i : Int) + 1 from by omega] at h
    have hp := partL_length (L.map fun x => (x.size : Int)) i L.length (by simp; omega) (by omega)
    refine Ev.step (fun k => by rw [PAroundOf.goprompt_Document_lineStartIndexes.l0, w64 (x := (i : Int) + 1) (by omega) (by omega)]) (ev_ifp (by omega) (ev_ifp (by omega) (ev_ifp (by omega) (ev_ifp (by rw [hp]; omega) ?_))))
    have hset := partL_set (L.map fun x => (x.size : Int)) i L.length (by simp; omega) (by omega)
    have hrd : (((rdOf ByteArray.empty L (i : Int)).size : Nat) : Int) = (L.map fun x => (x.size : Int))[i]'(by simp; omega) := by
      unfold rdOf
      rw [show ((i : Int)).toNat = i from by omega, List.getD_eq_getElem?_getD, List.getElem?_eq_getElem (by omega)]
      simp
    rw [show ((i : Int)).toNat = i from by omega, hrd, hset]
    exact h
theorem fill_starts (L : List (List Int)) (x3 : Int) (s : ByteArray) (a : Int) (R : List Int × ByteArray × Int) (hl : L.length ≤ 100000) (hj : (joinL L).length ≤ 1000000)
    (hE : Ev (fun k => (if x3 > 1 then (if 0 ≤ x3 then (if x3 ≤ ((startsL L).length : Int) then (some (((startsL L).take x3.toNat), s, a)) else none) else none) else (some (startsL L, s, a)))) R) :
    ∀ d i : Nat, i + d = L.length → Ev (fun k => PAroundOf.goprompt_Document_lineStartIndexes.l1 k x3 (partL (startsL L) (i + 1) (L.length + 1)) ((joinL (L.take i)).length : Int) (L.map fun x => (x.length : Int)) (L.length : Int) (i : Int) s a) R := by
  intro d
  induction d with
  | zero =>
    intro i hi
    have e : i = L.length := by omega
    subst e
    refine Ev.step (fun k => by rw [PAroundOf.goprompt_Document_lineStartIndexes.l1]) (ev_ifn (by omega) ?_)
    rw [partL_all _ _ (startsL_length L)]
    exact hE
  | succ d ih =>
    intro i hi
    have h := ih (i + 1) (by omega)
    have hs := join_succ L i (by omega)
    have hm := join_mono L (i := i + 1) (j := L.length) (by omega)
    rw [List.take_length] at hm
    rw [show ((i + 1 : Nat) : Int) = (i : Int) + 1 from by omega] at h
    have hp := partL_length (startsL L) (i + 1) (L.length + 1) (by rw [startsL_length]; omega) (by omega)
    have hrd : rd (L.map fun x => (x.length : Int)) (i : Int) = (L[i].length : Int) := by
      rw [rd_nat _ i (by simp; omega)]; simp
    refine Ev.step (fun k => by rw [PAroundOf.goprompt_Document_lineStartIndexes.l1, w64 (x := (i : Int) + 1) (by omega) (by omega), hrd, w64 (x := (L[i].length : Int) + 1) (by omega) (by omega), w64 (x := ((joinL (L.take i)).length : Int) + ((L[i].length : Int) + 1)) (by omega) (by omega)]) (ev_ifp (by omega) (ev_ifp (by omega) (ev_ifp (by simp; omega) (ev_ifp (by omega) (ev_ifp (by rw [hp]; omega) ?_)))))
    have hset := partL_set (startsL L) (i + 1) (L.length + 1) (by rw [startsL_length]; omega) (by omega)
    rw [startsL_at L (i + 1) (by omega), hs] at hset
    rw [show ((i : Int) + 1).toNat = i + 1 from by omega, show ((joinL (L.take i)).length : Int) + ((L[i].length : Int) + 1) = (((joinL (L.take i)).length + L[i].length + 1 : Nat) : Int) from by omega, hset]
    rw [hs] at h
    exact h
def idxL (L : List (List Int)) : List Int := if L.length > 1 then (startsL L).take L.length else startsL L
theorem indexes_tells (s : ByteArray) (a : Int) (hs : s.size ≤ 5000) : Ev (fun k => PAroundOf.goprompt_Document_lineStartIndexes.f k s a) (idxL (linesL (ints s)), s, a) := by
  obtain ⟨L, hL, hE⟩ := doc_lines s hs
  have hjoin := linesL_join (ints s)
  have hcnt := linesL_count (ints s)
  have hz := ints_length s
  have hc1 : (ints s).count 10 ≤ (ints s).length := List.count_le_length
  have hlen : L.length = (linesL (ints s)).length := by rw [← hL, List.length_map]
  have hmap : (L.map fun x => (x.size : Int)) = (linesL (ints s)).map fun x => (x.length : Int) := by
    rw [← hL, List.map_map]
    refine List.map_congr_left fun x _ => ?_
    show (x.size : Int) = ((ints x).length : Int)
    rw [ints_length]
  have hjl : (joinL (linesL (ints s))).length = s.size + 1 := by rw [hjoin, List.length_append, hz]; rfl
  unfold PAroundOf.goprompt_Document_lineStartIndexes.f PAroundOf.goprompt_Document_LineCount.f
  refine ev_bind (a := ((L.length : Int), s, a)) (ev_bind (hE a) (Ev.now _)) (ev_ifp (by simp only; omega) (ev_ifp (by simp only; omega) (ev_bind (hE a) ?_)))
  simp only
  rw [show ((L.length : Int)).toNat = L.length from by omega]
  have h0 := fill_lens L (L.length : Int) s a (idxL (linesL (ints s)), s, a) (by omega) ?_ L.length 0 (by omega)
  · rw [partL_zero] at h0; exact h0
  · rw [w64 (x := (L.length : Int) + 1) (by omega) (by omega), show ((L.length : Int) + 1).toNat = L.length + 1 from by omega]
    refine ev_ifp (by omega) (ev_ifp (by omega) ?_)
    simp only [Option.bind_some]
    refine ev_ifp (by simp) ?_
    have h1 := fill_starts (linesL (ints s)) (L.length : Int) s a (idxL (linesL (ints s)), s, a) (by omega) (by omega) ?_ (linesL (ints s)).length 0 (by omega)
    · rw [← hmap] at h1
      rw [List.length_map, hlen]
      rw [hlen] at h1
      have e0 : partL (startsL (linesL (ints s))) (0 + 1) ((linesL (ints s)).length + 1) = (List.replicate ((linesL (ints s)).length + 1) 0).set (0 : Int).toNat 0 := by
        have := partL_set (startsL (linesL (ints s))) 0 ((linesL (ints s)).length + 1) (by rw [startsL_length]; omega) (by omega)
        rw [startsL_at _ 0 (by omega), partL_zero] at this
        rw [← this]
        rfl
      rw [e0] at h1
      exact h1
    · unfold idxL
      rw [hlen, startsL_length]
      by_cases h : (linesL (ints s)).length > 1
      · rw [if_pos h]; exact ev_ifp (by omega) (ev_ifp (by omega) (ev_ifp (by omega) (Ev.now _)))
      · rw [if_neg h]; exact ev_ifn (by omega) (Ev.now _)
theorem cnt_is (v : Int) : ∀ (l : List Int) (m : Nat), m ≤ l.length → (∀ h, h < l.length → (l.getD h 0 ≤ v ↔ h < m)) → cntLe l v = m
  | [], m, hm, _ => by simp at hm; subst hm; rfl
  | x :: l, m, hm, h => by
    have h0 := h 0 (by simp)
    simp only [List.getD_cons_zero] at h0
    cases m with
    | zero =>
      have hx : ¬ x ≤ v := fun e => absurd (h0.1 e) (by omega)
      have ih := cnt_is v l 0 (by omega) (fun j hj => by
        have := h (j + 1) (by simpa using hj)
        simpa using this)
      unfold cntLe at ih ⊢
      rw [List.filter_cons_of_neg (by simpa using hx)]
      exact ih
    | succ m =>
      have hx : x ≤ v := h0.2 (by omega)
      have ih := cnt_is v l m (by simpa using hm) (fun j hj => by
        have := h (j + 1) (by simpa using hj)
        simpa using this)
      unfold cntLe at ih ⊢
      rw [List.filter_cons_of_pos (by simpa using hx), List.length_cons, ih]
/-- A place of a text of ASCII: n; r lines A ahead of it, which with their line feeds take g signs, its line h, those behind it B; as texts: its first part P, its second one Q, the lines L. -/
structure Spot (s : ByteArray) (n : Nat) (A : List (List Int)) (h : List Int) (B : List (List Int)) (P Q : ByteArray) (L : List ByteArray) : Prop where
  small : s.size ≤ 5000
  asc : Asc s
  lines : linesL (ints s) = A ++ h :: B
  map : L.map ints = A ++ h :: B
  inside : n ≤ s.size
  le : (joinL A).length ≤ n
  within : n - (joinL A).length ≤ h.length
  one : linesL (ints P) = A ++ [h.take (n - (joinL A).length)]
  two : linesL (ints Q) = h.drop (n - (joinL A).length) :: B
  fst : ints P = (ints s).take n
  snd : ints Q = (ints s).drop n
  bef : runesBytes ((runesOf s).take n) = P
  aft : runesBytes ((runesOf s).drop n) = Q
theorem spot_ (s : ByteArray) (n : Nat) (hs : s.size ≤ 5000) (hasc : Asc s) (hn : n ≤ s.size) : ∃ A h B P Q L, Spot s n A h B P Q L ∧ ∀ a, Ev (fun k => PAroundOf.goprompt_Document_Lines.f k s a) (L, s, a) := by
  obtain ⟨A, h, B, h1, h2, h3, h4, h5, h6⟩ := linesL_parts (ints s) n (by rw [ints_length]; exact hn)
  obtain ⟨L, hL, hE⟩ := doc_lines s hs
  have hr := runesOf_asc hasc
  have e1 : ints (runesBytes ((runesOf s).take n)) = (ints s).take n := by rw [hr, ints_runesBytes _ (fun x hx => asc_ints hasc x (List.mem_of_mem_take hx))]
  have e2 : ints (runesBytes ((runesOf s).drop n)) = (ints s).drop n := by rw [hr, ints_runesBytes _ (fun x hx => asc_ints hasc x (List.mem_of_mem_drop hx))]
  exact ⟨A, h, B, _, _, L, ⟨hs, hasc, h1, hL.trans h1, hn, h2, h3, by rw [e1]; exact h5, by rw [e2]; exact h6, e1, e2, rfl, rfl⟩, hE⟩
section
variable {s : ByteArray} {n : Nat} {A : List (List Int)} {h : List Int} {B : List (List Int)} {P Q : ByteArray} {L : List ByteArray}
theorem Spot.sizes (S : Spot s n A h B P Q L) : P.size = n ∧ Q.size = s.size - n := by
  have hn := S.inside
  constructor
  · rw [← ints_length, S.fst, List.length_take, ints_length]; omega
  · rw [← ints_length, S.snd, List.length_drop, ints_length]
theorem Spot.len (S : Spot s n A h B P Q L) : L.length = A.length + 1 + B.length := by
  have := congrArg List.length S.map
  simp at this; omega
theorem Spot.row (S : Spot s n A h B P Q L) : A.length < L.length := by have := S.len; omega
theorem Spot.rows (S : Spot s n A h B P Q L) : L.length ≤ 5001 := by
  have h1 := linesL_count (ints s)
  have h2 : (ints s).count 10 ≤ (ints s).length := List.count_le_length
  have h3 := congrArg List.length S.lines
  have h4 := congrArg List.length S.map
  have h5 := S.small
  rw [ints_length] at h2
  rw [List.length_map] at h4
  omega
theorem Spot.ascP (S : Spot s n A h B P Q L) : Asc P := by
  intro b hb
  have : (b.toNat : Int) ∈ ints P := List.mem_map.2 ⟨b, hb, rfl⟩
  rw [S.fst] at this
  have := (asc_ints S.asc _ (List.mem_of_mem_take this)).2
  omega
theorem Spot.ascQ (S : Spot s n A h B P Q L) : Asc Q := by
  intro b hb
  have : (b.toNat : Int) ∈ ints Q := List.mem_map.2 ⟨b, hb, rfl⟩
  rw [S.snd] at this
  have := (asc_ints S.asc _ (List.mem_of_mem_drop this)).2
  omega
theorem Spot.before_tells (S : Spot s n A h B P Q L) : PAroundOf.goprompt_Document_TextBeforeCursor.f s (n : Int) = some (P, s, (n : Int)) := by
  have hr := runesOf_asc S.asc
  have hl := ints_length s
  have hs := S.small
  have hn := S.inside
  unfold PAroundOf.goprompt_Document_TextBeforeCursor.f
  rw [if_pos (by rw [hr]; omega)]
  simp only [Option.bind_some]
  rw [if_pos (by omega), if_pos (by rw [hr, hl]; omega), show ((n : Int)).toNat = n from by omega, S.bef]
theorem Spot.after_tells (S : Spot s n A h B P Q L) : PAroundOf.goprompt_Document_TextAfterCursor.f s (n : Int) = some (Q, s, (n : Int)) := by
  have hr := runesOf_asc S.asc
  have hl := ints_length s
  have hs := S.small
  have hn := S.inside
  unfold PAroundOf.goprompt_Document_TextAfterCursor.f
  rw [if_pos (by rw [hr]; omega)]
  simp only [Option.bind_some]
  rw [if_pos (by omega), if_pos (by rw [hr, hl]; omega), show ((n : Int)).toNat = n from by omega, S.aft]
/-- The line's two parts, as texts. -/
theorem Spot.line_tells (S : Spot s n A h B P Q L) : ∃ U V : ByteArray, ints U = h.take (n - (joinL A).length) ∧ ints V = h.drop (n - (joinL A).length) ∧
    Ev (fun k => PAroundOf.goprompt_Document_CurrentLineBeforeCursor.f k s (n : Int)) (U, s, (n : Int)) ∧ Ev (fun k => PAroundOf.goprompt_Document_CurrentLineAfterCursor.f k s (n : Int)) (V, s, (n : Int)) := by
  have hz := S.sizes
  have hs := S.small
  have hn := S.inside
  obtain ⟨L1, hL1, hE1⟩ := split_tells P.size P [] (Nat.le_refl _) (by simp; omega)
  obtain ⟨L2, hL2, hE2⟩ := split_tells Q.size Q [] (Nat.le_refl _) (by simp; omega)
  rw [S.one] at hL1
  rw [S.two] at hL2
  have hl1 : L1.length = A.length + 1 := by have := congrArg List.length hL1; simpa using this
  cases L2 with
  | nil => simp at hL2
  | cons V L2 =>
    have hA : A.length ≤ 5000 := by have := S.rows; have := S.row; omega
    refine ⟨L1[A.length]'(by omega), V, ?_, (List.cons.injEq _ _ _ _ ▸ hL2 : _ ∧ _).1, ?_, ?_⟩
    · have : (L1.map ints)[A.length]'(by rw [List.length_map]; omega) = (A ++ [h.take (n - (joinL A).length)])[A.length]'(by simp) := by simp only [hL1]
      rw [List.getElem_map] at this
      rw [this]
      simp
    · unfold PAroundOf.goprompt_Document_CurrentLineBeforeCursor.f
      rw [S.before_tells]
      simp only [Option.bind_some]
      unfold PAroundOf.goprompt_zzSplit.f
      refine ev_bind (a := L1) (ev_ifn (by decide) (by simpa using hE1)) ?_
      have hw : wrap64 ((L1.length : Int) - 1) = (A.length : Int) := by rw [w64 (by omega) (by omega)]; omega
      simp only [hw]
      refine ev_ifp (by omega) (ev_ifp (by omega) (ev_some ?_))
      unfold rdOf
      rw [show ((A.length : Int)).toNat = A.length from by omega, List.getD_eq_getElem?_getD, List.getElem?_eq_getElem (by omega)]
      rfl
    · unfold PAroundOf.goprompt_Document_CurrentLineAfterCursor.f
      rw [S.after_tells]
      simp only [Option.bind_some]
      unfold PAroundOf.goprompt_zzSplit.f
      refine ev_bind (a := V :: L2) (ev_ifn (by decide) (by simpa using hE2)) (ev_ifp (by simp) (ev_some ?_))
      rfl
theorem Spot.idx (S : Spot s n A h B P Q L) : A.length < (idxL (linesL (ints s))).length ∧ rd (idxL (linesL (ints s))) (A.length : Int) = ((joinL A).length : Int) ∧ Cut (idxL (linesL (ints s))) (n : Int) ∧ cntLe (idxL (linesL (ints s))) (n : Int) = A.length + 1 ∧ (idxL (linesL (ints s))).length ≤ (linesL (ints s)).length + 1 := by
  have hjt : (linesL (ints s)).take A.length = A := by rw [S.lines, List.take_left]
  have hrow : (linesL (ints s))[A.length]? = some h := by simp [S.lines]
  have hlt : A.length < (linesL (ints s)).length := by rw [S.lines]; simp
  have hle := S.le
  have hwi := S.within
  generalize linesL (ints s) = LL at *
  have hT := startsL_length LL
  have hlen : (idxL LL).length = LL.length ∧ LL.length > 1 ∨ (idxL LL).length = LL.length + 1 ∧ LL.length = 1 := by
    unfold idxL
    by_cases hc : LL.length > 1
    · rw [if_pos hc]; left; rw [List.length_take, hT]; omega
    · rw [if_neg hc]; right; rw [hT]; omega
  have hat : ∀ i, i < (idxL LL).length → (idxL LL).getD i 0 = ((joinL (LL.take i)).length : Int) := by
    intro i hi
    have hi2 : i < (startsL LL).length := by omega
    have e : (idxL LL)[i]? = (startsL LL)[i]? := by
      unfold idxL at hi ⊢
      split
      · rename_i hc
        rw [if_pos hc] at hi
        rw [List.length_take] at hi
        rw [List.getElem?_take_of_lt (by omega)]
      · rfl
    rw [List.getD_eq_getElem?_getD, e, List.getElem?_eq_getElem hi2, startsL_at LL i (by omega)]
    rfl
  have hs := join_succ LL A.length hlt
  rw [List.getElem?_eq_getElem hlt] at hrow
  rw [Option.some.inj hrow] at hs
  have hst : (joinL (LL.take A.length)).length = (joinL A).length := by rw [hjt]
  have hcmp : ∀ i, i < (idxL LL).length → ((idxL LL).getD i 0 ≤ (n : Int) ↔ i < A.length + 1) := by
    intro i hi
    rw [hat i hi]
    by_cases hir : i ≤ A.length
    · have := join_mono LL hir
      exact ⟨fun _ => by omega, fun _ => by omega⟩
    · have := join_mono LL (i := A.length + 1) (j := i) (by omega)
      exact ⟨fun hx => by omega, fun hx => by omega⟩
  have hr : A.length < (idxL LL).length := by omega
  have hc := cnt_is (n : Int) (idxL LL) (A.length + 1) (by omega) hcmp
  refine ⟨hr, ?_, fun i hi => by rw [hcmp i hi, hc], hc, by omega⟩
  unfold rd
  rw [show ((A.length : Int)).toNat = A.length from by omega, hat A.length hr, hst]
theorem Spot.find_tells (S : Spot s n A h B P Q L) : Ev (fun k => PAroundOf.goprompt_Document_findLineStartIndex.f k s (n : Int) (n : Int)) ((A.length : Int), ((joinL A).length : Int), s, (n : Int)) := by
  obtain ⟨h1, h2, h3, h4, h5⟩ := S.idx
  have hlt := S.row
  have hrs := S.rows
  have hlen : (linesL (ints s)).length = L.length := by rw [S.lines, ← S.map, List.length_map]
  unfold PAroundOf.goprompt_Document_findLineStartIndex.f
  refine ev_bind (indexes_tells s (n : Int) S.small) ?_
  have e : bisect_Right.f (idxL (linesL (ints s))) (n : Int) = some ((A.length + 1 : Nat) : Int) := by
    unfold bisect_Right.f
    rw [if_pos ⟨h3, by omega⟩, h4]
  simp only [e, Option.bind_some]
  rw [w64 (x := ((A.length + 1 : Nat) : Int) - 1) (by omega) (by omega), show ((A.length + 1 : Nat) : Int) - 1 = (A.length : Int) from by omega, h2]
  exact ev_ifp (by omega) (ev_ifp (by omega) (Ev.now _))
end
end Go.Proofs.YtkfmjkiefckgoaaGreatDoor.X
