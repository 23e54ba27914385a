/- What impl.AroundOf and impl.WordPlaces tell of a text of ASCII and a cursor in it; plain laws over the printed functions. -/
import Derived.Test.YtkfmjkiefckgoaaGreatDoorQXDoc
namespace Go.Proofs.YtkfmjkiefckgoaaGreatDoor.X
open Go.RowKit Go.Proofs.YtkfmjkiefckgoaaGreatDoor.R Go.Proofs.YtkfmjkiefckgoaaGreatDoor.H Go.Proofs.YtkfmjkiefckgoaaGreatDoorW.PrintWords Go.Proofs.YtkfmjkiefckgoaaGreatDoorW.PrintLast
set_option linter.unusedVariables false
theorem lastI_congr {p q : Nat → Bool} : ∀ n, (∀ i, i < n → p i = q i) → lastI p n = lastI q n
  | 0, _ => rfl
  | n + 1, h => by unfold lastI; rw [h n (by omega), lastI_congr n fun i hi => h i (by omega)]
theorem firstI_congr {p q : Nat → Bool} : ∀ d i, (∀ j, i ≤ j → j < i + d → p j = q j) → firstI p d i = firstI q d i
  | 0, _, _ => rfl
  | d + 1, i, h => by unfold firstI; rw [h i (by omega) (by omega), firstI_congr d (i + 1) fun j h1 h2 => h j (by omega) (by omega)]
def sp (s : ByteArray) (flag : Bool) (i : Nat) : Bool := decide (bt s (i : Int) = 32) != flag
theorem lastByte_tells (s : ByteArray) (hs : s.size ≤ 4611686018427387904) : Ev (fun k => PAroundOf.strings_LastIndexByte.f k s 32) (lastI (sp s false) s.size) := by
  unfold PAroundOf.strings_LastIndexByte.f
  refine ev_bind (a := lastI (sp s false) s.size) ?_ (Ev.now _)
  unfold PAroundOf.bytealg_LastIndexByteString.f
  rw [w64 (x := (s.size : Int) - 1) (by omega) (by omega)]
  suffices h : ∀ n : Nat, n ≤ s.size → Ev (fun k => PAroundOf.bytealg_LastIndexByteString.l0 k s 32 ((n : Int) - 1)) (lastI (sp s false) n) from h s.size (Nat.le_refl _)
  intro n
  induction n with
  | zero => intro _; exact Ev.step (fun k => by rw [PAroundOf.bytealg_LastIndexByteString.l0]) (ev_ifn (by omega) (ev_some (r := (-1 : Int)) rfl))
  | succ n ih =>
    intro hn
    rw [show ((n + 1 : Nat) : Int) - 1 = (n : Int) from by omega]
    refine Ev.step (fun k => by rw [PAroundOf.bytealg_LastIndexByteString.l0, w64 (x := (n : Int) - 1) (by omega) (by omega)]) (ev_ifp (by omega) (ev_ifp (by omega) (ev_ifp (by omega) ?_)))
    unfold lastI sp
    by_cases h : bt s (n : Int) = 32
    · rw [decide_eq_true h]; exact ev_ifp h (ev_some rfl)
    · rw [decide_eq_false h]; exact ev_ifn h (ih (by omega))
theorem lastNot_tells (s : ByteArray) (hs : s.size ≤ 4611686018427387904) : Ev (fun k => PAroundOf.strings_LastIndexNotByte.f k s 32) (lastI (sp s true) s.size) := by
  unfold PAroundOf.strings_LastIndexNotByte.f
  rw [w64 (x := (s.size : Int) - 1) (by omega) (by omega)]
  suffices h : ∀ n : Nat, n ≤ s.size → Ev (fun k => PAroundOf.strings_LastIndexNotByte.l0 k s 32 ((n : Int) - 1)) (lastI (sp s true) n) from h s.size (Nat.le_refl _)
  intro n
  induction n with
  | zero => intro _; exact Ev.step (fun k => by rw [PAroundOf.strings_LastIndexNotByte.l0]) (ev_ifn (by omega) (ev_some (r := (-1 : Int)) rfl))
  | succ n ih =>
    intro hn
    rw [show ((n + 1 : Nat) : Int) - 1 = (n : Int) from by omega]
    refine Ev.step (fun k => by rw [PAroundOf.strings_LastIndexNotByte.l0, w64 (x := (n : Int) - 1) (by omega) (by omega)]) (ev_ifp (by omega) (ev_ifp (by omega) (ev_ifp (by omega) ?_)))
    unfold lastI sp
    by_cases h : bt s (n : Int) = 32
    · rw [decide_eq_true h]; exact ev_ifp h (ih (by omega))
    · rw [decide_eq_false h]; exact ev_ifn h (ev_some rfl)
theorem firstNot_tells (s : ByteArray) (hs : s.size ≤ 4611686018427387904) : Ev (fun k => PAroundOf.strings_IndexNotByte.f k s 32) (firstI (sp s true) s.size 0) := by
  unfold PAroundOf.strings_IndexNotByte.f
  suffices h : ∀ d i : Nat, i + d = s.size → Ev (fun k => PAroundOf.strings_IndexNotByte.l0 k s 32 (s.size : Int) (i : Int)) (firstI (sp s true) d i) from h s.size 0 (by omega)
  intro d
  induction d with
  | zero => intro i hi; exact Ev.step (fun k => by rw [PAroundOf.strings_IndexNotByte.l0]) (ev_ifn (by omega) (ev_some (r := (-1 : Int)) rfl))
  | succ d ih =>
    intro i hi
    have h := ih (i + 1) (by omega)
    rw [show ((i + 1 : Nat) : Int) = (i : Int) + 1 from by omega] at h
    refine Ev.step (fun k => by rw [PAroundOf.strings_IndexNotByte.l0, w64 (x := (i : Int) + 1) (by omega) (by omega)]) (ev_ifp (by omega) (ev_ifp (by omega) (ev_ifp (by omega) ?_)))
    unfold firstI sp
    by_cases h2 : bt s (i : Int) = 32
    · rw [decide_eq_true h2]; exact ev_ifp h2 h
    · rw [decide_eq_false h2]; exact ev_ifn h2 (ev_some rfl)
theorem find_range (q : Nat → Bool) : ∀ d i, (match (List.range' i d).find? q with | some j => (j : Int) | none => -1) = firstI q d i
  | 0, i => rfl
  | d + 1, i => by
    rw [List.range'_succ, List.find?_cons]
    unfold firstI
    cases h : q i with
    | true => simp
    | false => simpa using find_range q d (i + 1)
theorem firstByte_tells (s : ByteArray) : strings_IndexByte.f s 32 = some (firstI (sp s false) s.size 0) := by
  unfold strings_IndexByte.f firstIdx
  congr 1
  rw [List.range_eq_range']
  refine (find_range (fun i => s[i]! == (32 : Int).toNat.toUInt8) s.size 0).trans ?_
  refine firstI_congr _ _ fun j _ hj => ?_
  have hj : j < s.size := by omega
  unfold sp
  have e1 := bt_nat s j hj
  have e2 : s[j]! = s.data.toList[j]'(by rw [dlen]; exact hj) := by
    rw [getElem!_pos s j hj]; simp; rfl
  rw [e1, e2]
  generalize s.data.toList[j]'(by rw [dlen]; exact hj) = b
  rw [Bool.eq_iff_iff]
  simp only [beq_iff_eq, Bool.bne_false, decide_eq_true_eq]
  rw [show ((32 : Int).toNat.toUInt8) = (32 : UInt8) from rfl, ← UInt8.toNat_inj]
  show b.toNat = 32 ↔ _
  omega
def startOf (s : ByteArray) : Int := lastI (sp s false) s.size + 1
def startSp (s : ByteArray) : Int := if lastI (sp s true) s.size < 0 then 0 else startOf (s.extract 0 (lastI (sp s true) s.size).toNat)
def endOf (s : ByteArray) : Int := if firstI (sp s false) s.size 0 < 0 then (s.size : Int) else firstI (sp s false) s.size 0
def endSp (s : ByteArray) : Int :=
  if firstI (sp s true) s.size 0 < 0 then (s.size : Int)
  else if firstI (sp (s.extract (firstI (sp s true) s.size 0).toNat s.size) false) (s.extract (firstI (sp s true) s.size 0).toNat s.size).size 0 < 0 then (s.size : Int)
  else firstI (sp s true) s.size 0 + firstI (sp (s.extract (firstI (sp s true) s.size 0).toNat s.size) false) (s.extract (firstI (sp s true) s.size 0).toNat s.size).size 0
theorem bt_cut (s : ByteArray) (a b i : Nat) (hb : b ≤ s.size) (hi : a + i < b) : bt (s.extract a b) (i : Int) = bt s ((a + i : Nat) : Int) := by
  have hz := extract_size s a b hb
  rw [bt_list _ i (by omega), bt_list s (a + i) (by omega)]
  have e := ints_extract s a b
  have h1 : (ints (s.extract a b))[i]? = (((ints s).drop a).take (b - a))[i]? := by rw [e]
  rw [List.getElem?_take_of_lt (by omega), List.getElem?_drop, List.getElem?_eq_getElem (by rw [ints_length]; omega), List.getElem?_eq_getElem (by rw [ints_length]; omega)] at h1
  exact Option.some.inj h1
theorem lastI_mono (p : Nat → Bool) : ∀ m n, m ≤ n → lastI p m ≤ lastI p n
  | m, 0, h => by
    have : m = 0 := by omega
    subst this; exact Int.le_refl _
  | m, n + 1, h => by
    by_cases he : m = n + 1
    · subst he; exact Int.le_refl _
    · have := lastI_mono p m n (by omega)
      have hl := lastI_le p n
      have e : lastI p (n + 1) = if p n then (n : Int) else lastI p n := rfl
      rw [e]; split <;> omega
/-- Where a word begins and ends by blanks: within the text, and what stands further off is no nearer. -/
theorem start_bounds (s : ByteArray) (hs : s.size ≤ 5000) : 0 ≤ startSp s ∧ startSp s ≤ startOf s ∧ startOf s ≤ s.size := by
  have lA := lastI_le (sp s false) s.size
  have mA := lastI_le (sp s true) s.size
  have h2 : startOf s ≤ s.size := by unfold startOf; omega
  have h1 : 0 ≤ startSp s ∧ startSp s ≤ startOf s := by
    unfold startSp
    split
    · unfold startOf; omega
    · rename_i hn
      obtain ⟨j, hj⟩ : ∃ j : Nat, lastI (sp s true) s.size = (j : Int) := ⟨(lastI (sp s true) s.size).toNat, by omega⟩
      rw [hj, show ((j : Int)).toNat = j from by omega]
      have hz := extract_size s 0 j (by omega)
      have hc : lastI (sp (s.extract 0 j) false) (s.extract 0 j).size = lastI (sp s false) j := by
        rw [hz]
        refine lastI_congr _ fun i hi => ?_
        unfold sp
        rw [bt_cut s 0 j i (by omega) (by omega), Nat.zero_add]
      have hb := lastI_le (sp s false) j
      have hm := lastI_mono (sp s false) j s.size (by omega)
      unfold startOf
      rw [hc]; omega
  omega
theorem end_bounds (s : ByteArray) (hs : s.size ≤ 5000) : 0 ≤ endOf s ∧ endOf s ≤ endSp s ∧ endSp s ≤ s.size := by
  have lB := firstI_le (sp s false) s.size 0
  have hm : (-1 : Int) < 0 := by omega
  unfold endOf endSp
  rcases firstI_spec (sp s true) s.size 0 with ⟨a1, a2⟩ | ⟨p, a1, _, a3, a4, a5⟩
  · rw [a1, if_pos hm]; split <;> omega
  · have hp : ¬ ((p : Int) < 0) := by omega
    rw [a1, if_neg hp, Int.toNat_natCast]
    have hz := extract_size s p s.size (Nat.le_refl _)
    have hsh : ∀ i, p + i < s.size → sp (s.extract p s.size) false i = sp s false (p + i) := fun i hi => by
      unfold sp
      rw [bt_cut s p s.size i (Nat.le_refl _) (by omega)]
    rw [hz]
    rcases firstI_spec (sp s false) s.size 0 with ⟨b1, b2⟩ | ⟨q, b1, _, b3, b4, b5⟩
    · rw [b1, if_pos hm]
      rcases firstI_spec (sp (s.extract p s.size) false) (s.size - p) 0 with ⟨c1, c2⟩ | ⟨r, c1, _, c3, c4, c5⟩
      · rw [c1, if_pos hm]; omega
      · have := b2 (p + r) (by omega) (by omega)
        rw [hsh r (by omega)] at c4
        rw [this] at c4; cases c4
    · have hq : ¬ ((q : Int) < 0) := by omega
      rw [b1, if_neg hq]
      rcases firstI_spec (sp (s.extract p s.size) false) (s.size - p) 0 with ⟨c1, c2⟩ | ⟨r, c1, _, c3, c4, c5⟩
      · rw [c1, if_pos hm]; omega
      · have hr : ¬ ((r : Int) < 0) := by omega
        rw [c1, if_neg hr]
        rw [hsh r (by omega)] at c4
        have : q ≤ p + r := by
          rcases Nat.lt_or_ge (p + r) q with hlt | hge
          · have := b5 (p + r) (by omega) hlt
            rw [this] at c4; cases c4
          · exact hge
        omega
section
variable {s : ByteArray} {n : Nat} {A : List (List Int)} {h : List Int} {B : List (List Int)} {P Q : ByteArray} {L : List ByteArray}
theorem Spot.words (S : Spot s n A h B P Q L) : Ev (fun k => PAroundOf.goprompt_Document_FindStartOfPreviousWord.f k s (n : Int)) (startOf P, s, (n : Int)) ∧ Ev (fun k => PAroundOf.goprompt_Document_FindStartOfPreviousWordWithSpace.f k s (n : Int)) (startSp P, s, (n : Int)) ∧
    PAroundOf.goprompt_Document_FindEndOfCurrentWord.f s (n : Int) = some (endOf Q, s, (n : Int)) ∧ Ev (fun k => PAroundOf.goprompt_Document_FindEndOfCurrentWordWithSpace.f k s (n : Int)) (endSp Q, s, (n : Int)) := by
  have eB := S.before_tells
  have eA := S.after_tells
  have hz := S.sizes
  have hs := S.small
  have hn := S.inside
  have lA := lastI_le (sp P false) P.size
  have mA := lastI_le (sp P true) P.size
  have lB := firstI_le (sp Q false) Q.size 0
  have mB := firstI_le (sp Q true) Q.size 0
  refine ⟨?_, ?_, ?_, ?_⟩
  · unfold PAroundOf.goprompt_Document_FindStartOfPreviousWord.f startOf
    rw [eB]
    simp only [Option.bind_some]
    refine ev_bind (lastByte_tells P (by omega)) ?_
    by_cases h : lastI (sp P false) P.size = -1
    · refine ev_ifp h (ev_some ?_); rw [h]; rfl
    · refine ev_ifn h (ev_some ?_); rw [w64 (by omega) (by omega)]
  · unfold PAroundOf.goprompt_Document_FindStartOfPreviousWordWithSpace.f startSp
    rw [eB]
    simp only [Option.bind_some]
    refine ev_bind (lastNot_tells P (by omega)) ?_
    by_cases h : lastI (sp P true) P.size = -1
    · rw [if_pos (by omega)]; exact ev_ifp h (Ev.now _)
    · rw [if_neg (by omega)]
      have hz := extract_size P 0 (lastI (sp P true) P.size).toNat (by omega)
      have hb := lastI_le (sp (P.extract 0 (lastI (sp P true) P.size).toNat) false) (P.extract 0 (lastI (sp P true) P.size).toNat).size
      refine ev_ifn h (ev_ifp (by omega) (ev_ifp (by omega) (ev_bind (lastByte_tells _ (by omega)) ?_)))
      unfold startOf
      by_cases h2 : lastI (sp (P.extract 0 (lastI (sp P true) P.size).toNat) false) (P.extract 0 (lastI (sp P true) P.size).toNat).size = -1
      · refine ev_ifp h2 (ev_some ?_); rw [h2]; rfl
      · refine ev_ifn h2 (ev_some ?_); rw [w64 (by omega) (by omega)]
  · unfold PAroundOf.goprompt_Document_FindEndOfCurrentWord.f endOf
    rw [eA]
    simp only [Option.bind_some, firstByte_tells]
    by_cases h : firstI (sp Q false) Q.size 0 = -1
    · rw [if_pos h, if_pos (by omega)]
    · rw [if_neg h, if_neg (by omega)]
  · unfold PAroundOf.goprompt_Document_FindEndOfCurrentWordWithSpace.f endSp
    rw [eA]
    simp only [Option.bind_some]
    refine ev_bind (firstNot_tells Q (by omega)) ?_
    by_cases h : firstI (sp Q true) Q.size 0 = -1
    · rw [if_pos (show firstI (sp Q true) Q.size 0 < 0 by omega)]; exact ev_ifp h (Ev.now _)
    · rw [if_neg (show ¬ firstI (sp Q true) Q.size 0 < 0 by omega)]
      have hz := extract_size Q (firstI (sp Q true) Q.size 0).toNat Q.size (Nat.le_refl _)
      have hb := firstI_le (sp (Q.extract (firstI (sp Q true) Q.size 0).toNat Q.size) false) (Q.extract (firstI (sp Q true) Q.size 0).toNat Q.size).size 0
      refine ev_ifn h (ev_ifp (by omega) (ev_ifp (by omega) ?_))
      simp only [firstByte_tells, Option.bind_some]
      by_cases h2 : firstI (sp (Q.extract (firstI (sp Q true) Q.size 0).toNat Q.size) false) (Q.extract (firstI (sp Q true) Q.size 0).toNat Q.size).size 0 = -1
      · rw [if_pos (show firstI (sp (Q.extract (firstI (sp Q true) Q.size 0).toNat Q.size) false) (Q.extract (firstI (sp Q true) Q.size 0).toNat Q.size).size 0 < 0 by omega)]; exact ev_ifp h2 (Ev.now _)
      · rw [if_neg (show ¬ firstI (sp (Q.extract (firstI (sp Q true) Q.size 0).toNat Q.size) false) (Q.extract (firstI (sp Q true) Q.size 0).toNat Q.size).size 0 < 0 by omega)]
        refine ev_ifn h2 (ev_some ?_); rw [w64 (by omega) (by omega)]
theorem Spot.doc_tells (S : Spot s n A h B P Q L) : impl_document.f s (n : Int) = some (s, (n : Int), true) := by
  unfold impl_document.f
  have hr := runesOf_asc S.asc
  have hl := ints_length s
  have hs := S.small
  have hn := S.inside
  rw [if_pos ⟨by omega, by rw [hr, hl]; omega, by omega⟩]
/-- What AroundOf tells. -/
theorem Spot.around_tells (S : Spot s n A h B P Q L) (hE : ∀ a, Ev (fun k => PAroundOf.goprompt_Document_Lines.f k s a) (L, s, a)) : ∃ U V : ByteArray, ints U = h.take (n - (joinL A).length) ∧ ints V = h.drop (n - (joinL A).length) ∧
    Ev (fun k => PAroundOf.impl_AroundOf.f k s (n : Int)) (P, Q, U, V, U ++ V, (A.length : Int), (n : Int) - ((joinL A).length : Int), L, (A.length : Int) == (L.length : Int) - 1, (V.size : Int),
      P.extract (startOf P).toNat P.size, Q.extract 0 (endOf Q).toNat, P.extract (startSp P).toNat P.size, Q.extract 0 (endSp Q).toNat) := by
  obtain ⟨U, V, hU, hV, eU, eV⟩ := S.line_tells
  obtain ⟨e1, e2, e3, e4⟩ := S.words
  have hz := S.sizes
  have hs := S.small
  have hn := S.inside
  have hrs := S.rows
  have hle := S.le
  have b1 := start_bounds P (by omega)
  have b2 := end_bounds Q (by omega)
  have hVz : V.size ≤ 5000 := by
    have h1 : V.size ≤ h.length := by rw [← ints_length, hV, List.length_drop]; omega
    have h2 : h.length ≤ (ints s).length + 1 := by
      have := linesL_join (ints s)
      rw [S.lines, joinL_append, joinL_cons] at this
      have := congrArg List.length this
      simp at this; omega
    have h3 : V.size ≤ Q.size := by
      have h4 := linesL_join (ints Q)
      rw [S.two, ← hV, joinL_cons] at h4
      have := congrArg List.length h4
      simp at this
      rw [ints_length] at this
      have h5 := ints_length Q
      omega
    omega
  have hUz : U.size ≤ 5000 := by
    have h4 := linesL_join (ints P)
    rw [S.one, ← hU, joinL_append, joinL_cons] at h4
    have := congrArg List.length h4
    simp at this
    have h5 := ints_length P
    have h6 := ints_length U
    omega
  have hVasc : Asc V := by
    intro b hb
    have hm : (b.toNat : Int) ∈ ints V := List.mem_map.2 ⟨b, hb, rfl⟩
    have h4 := linesL_join (ints Q)
    rw [S.two, ← hV, joinL_cons] at h4
    have : (b.toNat : Int) ∈ ints Q ++ [10] := by rw [← h4]; simp [hm]
    rcases List.mem_append.1 this with h7 | h7
    · have := (asc_ints S.ascQ _ h7).2; omega
    · simp at h7; omega
  refine ⟨U, V, hU, hV, ?_⟩
  unfold PAroundOf.impl_AroundOf.f
  rw [S.doc_tells]
  simp only [Option.bind_some]
  refine ev_ifp (by trivial) ?_
  simp only [S.before_tells, S.after_tells, Option.bind_some]
  refine ev_bind eU (ev_bind eV ?_)
  refine ev_bind (a := (U ++ V, s, (n : Int))) ?_ ?_
  · unfold PAroundOf.goprompt_Document_CurrentLine.f
    exact ev_bind eU (ev_bind eV (ev_ifp (by simp only; omega) (Ev.now _)))
  have eR : Ev (fun k => PAroundOf.goprompt_Document_CursorPositionRow.f k s (n : Int)) ((A.length : Int), s, (n : Int)) := by
    unfold PAroundOf.goprompt_Document_CursorPositionRow.f
    exact ev_bind S.find_tells (Ev.now _)
  refine ev_bind eR ?_
  refine ev_bind (a := ((n : Int) - ((joinL A).length : Int), s, (n : Int))) ?_ ?_
  · unfold PAroundOf.goprompt_Document_CursorPositionCol.f
    refine ev_bind S.find_tells (ev_some ?_)
    simp only
    rw [w64 (by omega) (by omega)]
  refine ev_bind (hE _) ?_
  refine ev_bind (a := ((A.length : Int) == (L.length : Int) - 1, s, (n : Int))) ?_ ?_
  · unfold PAroundOf.goprompt_Document_OnLastLine.f
    refine ev_bind eR (ev_bind (a := ((L.length : Int), s, (n : Int))) ?_ (ev_some ?_))
    · unfold PAroundOf.goprompt_Document_LineCount.f
      exact ev_bind (hE _) (Ev.now _)
    · simp only
      rw [w64 (by omega) (by omega)]
  refine ev_bind (a := ((V.size : Int), s, (n : Int))) ?_ ?_
  · unfold PAroundOf.goprompt_Document_GetEndOfLinePosition.f
    refine ev_bind eV ?_
    rw [runesOf_asc hVasc, ints_length]
    exact ev_ifp (by omega) (Ev.now _)
  refine ev_bind (a := (P.extract (startOf P).toNat P.size, s, (n : Int))) ?_ ?_
  · unfold PAroundOf.goprompt_Document_GetWordBeforeCursor.f
    simp only [S.before_tells, Option.bind_some]
    exact ev_bind e1 (ev_ifp (by simp only; omega) (ev_ifp (by simp only; omega) (Ev.now _)))
  have eW : PAroundOf.goprompt_Document_GetWordAfterCursor.f s (n : Int) = some (Q.extract 0 (endOf Q).toNat, s, (n : Int)) := by
    unfold PAroundOf.goprompt_Document_GetWordAfterCursor.f
    simp only [S.after_tells, e3, Option.bind_some]
    rw [if_pos (by omega), if_pos (by omega)]
  simp only [eW, Option.bind_some]
  refine ev_bind (a := (P.extract (startSp P).toNat P.size, s, (n : Int))) ?_ ?_
  · unfold PAroundOf.goprompt_Document_GetWordBeforeCursorWithSpace.f
    simp only [S.before_tells, Option.bind_some]
    exact ev_bind e2 (ev_ifp (by simp only; omega) (ev_ifp (by simp only; omega) (Ev.now _)))
  refine ev_bind (a := (Q.extract 0 (endSp Q).toNat, s, (n : Int))) ?_ (Ev.now _)
  unfold PAroundOf.goprompt_Document_GetWordAfterCursorWithSpace.f
  simp only [S.after_tells, Option.bind_some]
  exact ev_bind e4 (ev_ifp (by simp only; omega) (ev_ifp (by simp only; omega) (Ev.now _)))
end
end Go.Proofs.YtkfmjkiefckgoaaGreatDoor.X
