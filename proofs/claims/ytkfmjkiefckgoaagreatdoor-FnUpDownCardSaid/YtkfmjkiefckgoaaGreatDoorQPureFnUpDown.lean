/- A cursor that goes up or down by rows: the pure statement behind the law FnUpDown; no condition. -/
import Derived.Test.YtkfmjkiefckgoaaGreatDoorQPFnUpDownx4
namespace Go.Proofs.YtkfmjkiefckgoaaGreatDoor.Pure
open Go.RowKit Go.Proofs.YtkfmjkiefckgoaaGreatDoor.R Go.Proofs.YtkfmjkiefckgoaaGreatDoor.X Go.Proofs.YtkfmjkiefckgoaaGreatDoor.PFnUpDown Go.Proofs.YtkfmjkiefckgoaaGreatDoor.H Go.Proofs.YtkfmjkiefckgoaaGreatDoorW.PrintWords Go.Proofs.YtkfmjkiefckgoaaGreatDoorW.PrintLast
set_option linter.unusedVariables false
theorem ascii_loop (s : ByteArray) (hs : s.size ≤ 4611686018427387904) (d : Nat) : ∀ i : Nat, i + d = s.size →
    ∃ b, Ev (fun k => spec_ASCII.l0 k s (i : Int)) b ∧ (b = true → s.size ≤ 1000 ∧ ∀ j (hj : j < s.size), i ≤ j → (s.data.toList[j]'(by rw [dlen]; exact hj)).toNat < 128) := by
  induction d with
  | zero =>
    intro i hi
    exact ⟨decide ((s.size : Int) ≤ 1000), Ev.step (fun k => by rw [spec_ASCII.l0]) (ev_ifn (by omega) (Ev.now _)), fun h => ⟨by have := of_decide_eq_true h; omega, fun j hj h => by omega⟩⟩
  | succ d ih =>
    intro i hi
    obtain ⟨b, hb, hq⟩ := ih (i + 1) (by omega)
    rw [show ((i + 1 : Nat) : Int) = (i : Int) + 1 from by omega] at hb
    have e1 := bt_nat s i (by omega)
    by_cases h : (128 : Int) ≤ bt s (i : Int)
    · exact ⟨false, Ev.step (fun k => by rw [spec_ASCII.l0]) (ev_ifp (by omega) (ev_ifp (by omega) (ev_ifp h (Ev.now _)))), fun h => by cases h⟩
    · refine ⟨b, Ev.step (fun k => by rw [spec_ASCII.l0, w64 (x := (i : Int) + 1) (by omega) (by omega)]) (ev_ifp (by omega) (ev_ifp (by omega) (ev_ifn h hb))), fun hbt => ⟨(hq hbt).1, fun j hj hij => ?_⟩⟩
      rcases Nat.eq_or_lt_of_le hij with rfl | hlt
      · omega
      · exact (hq hbt).2 j hj hlt
theorem right_tells (s : ByteArray) (a : Int) (hs : s.size ≤ 4611686018427387904) : ∃ b, Ev (fun k => spec_DocRight.f k s a) b ∧ (b = true → s.size ≤ 1000 ∧ Asc s ∧ 0 ≤ a ∧ a ≤ s.size) := by
  obtain ⟨b, hb, hq⟩ := ascii_loop s hs s.size 0 (by omega)
  unfold spec_DocRight.f spec_ASCII.f
  cases b with
  | false => exact ⟨false, ev_bind hb (ev_ifn (by simp) (Ev.now _)), fun h => by cases h⟩
  | true =>
    have hasc : Asc s := fun x hx => by
      obtain ⟨j, hj, rfl⟩ := List.getElem_of_mem hx
      exact (hq rfl).2 j (by rw [← dlen]; exact hj) (Nat.zero_le _)
    by_cases h0 : a ≥ 0
    · refine ⟨decide (a ≤ (s.size : Int)), ev_bind hb (ev_ifp rfl (ev_ifp h0 (Ev.now _))), fun h => ⟨(hq rfl).1, hasc, h0, of_decide_eq_true h⟩⟩
    · exact ⟨false, ev_bind hb (ev_ifp rfl (ev_ifn h0 (Ev.now _))), fun h => by cases h⟩
theorem one7_tells {s : ByteArray} {n : Nat} (hok : OkT s n) {op nn : Int} {text : ByteArray} {flag : Bool} {r : ES × ByteArray} (h : estep ⟨s, n, -1⟩ ⟨op, nn, text, flag⟩ = some r) : laws_one7.f s (n : Int) op nn text flag = some (r.1.t, (r.1.p : Int), r.2, true) := by
  unfold laws_one7.f impl_EditedFrom.f
  rw [if_pos ⟨by omega, by rw [Int.toNat_natCast]; exact hok, by simp⟩]
  have e : erun ⟨s, (n : Int).toNat, -1⟩ ([(⟨op, nn, text, flag⟩ : S31)].map ed_of) = some (r.1, [r.2]) := by
    rw [Int.toNat_natCast]
    simp only [List.map_cons, List.map_nil, ed_of, erun, h, Option.bind_some]
  rw [e]
  simp only [Option.bind_some, if_true, List.length_cons, List.length_nil]
  rfl
theorem newline_tells (c : Int) : Ev (fun k => spec_hasByte.f k (⟨#[10]⟩ : ByteArray) c) (decide (c = 10)) := by
  have hb : bt (⟨#[10]⟩ : ByteArray) 0 = 10 := by decide
  have hz : ((⟨#[10]⟩ : ByteArray).size : Int) = 1 := rfl
  unfold spec_hasByte.f
  refine Ev.step (fun k => by rw [spec_hasByte.l0, hb, hz, w64 (x := (0 : Int) + 1) (by omega) (by omega)]) (ev_ifp (by omega) (ev_ifp (by omega) ?_))
  by_cases h : c = 10
  · rw [decide_eq_true h]; exact ev_ifp h.symm (ev_some rfl)
  · rw [decide_eq_false h]
    refine ev_ifn (fun h' => h h'.symm) (Ev.step (fun k => by rw [spec_hasByte.l0, hz]) (ev_ifn (by omega) (Ev.now _)))
theorem first_tells (s : ByteArray) (hs : s.size ≤ 4611686018427387904) : Ev (fun k => spec_first.f k s (⟨#[10]⟩ : ByteArray) false) (firstI (nlp s) s.size 0) := by
  unfold spec_first.f
  suffices h : ∀ d i : Nat, i + d = s.size → Ev (fun k => spec_first.l0 k s (⟨#[10]⟩ : ByteArray) false (i : Int)) (firstI (nlp s) d i) from h s.size 0 (by omega)
  intro d
  induction d with
  | zero => intro i hi; exact Ev.step (fun k => by rw [spec_first.l0]) (ev_ifn (by omega) (ev_some (r := (-1 : Int)) rfl))
  | succ d ih =>
    intro i hi
    have h := ih (i + 1) (by omega)
    rw [show ((i + 1 : Nat) : Int) = (i : Int) + 1 from by omega] at h
    refine Ev.step (fun k => by rw [spec_first.l0, w64 (x := (i : Int) + 1) (by omega) (by omega)]) (ev_ifp (by omega) (ev_ifp (by omega) (ev_bind (newline_tells _) ?_)))
    unfold firstI
    cases h2 : nlp s i with
    | true => exact ev_ifp (by unfold nlp at h2; rw [h2]; rfl) (Ev.now _)
    | false => exact ev_ifn (by unfold nlp at h2; rw [h2]; simp) h
theorem extract_sz (s : ByteArray) (a b : Nat) (h : b ≤ s.size) : (s.extract a b).size = b - a := by
  rw [← ints_length, ints_extract, List.length_take, List.length_drop, ints_length]; omega
theorem specLines_tells : ∀ (n : Nat) (s : ByteArray) (acc : List ByteArray), s.size ≤ n → s.size + acc.length ≤ 100000 → ∃ L : List ByteArray, L.map ints = linesL (ints s) ∧ Ev (fun k => spec_Lines.l0 k s acc) (acc ++ L) := by
  intro n
  induction n with
  | zero =>
    intro s acc hn hb
    have hz : s.size = 0 := by omega
    refine ⟨[s], ?_, ?_⟩
    · have : ints s = [] := List.eq_nil_of_length_eq_zero (by rw [ints_length]; exact hz)
      simp [this, linesL]
    · refine Ev.step (fun k => by rw [spec_Lines.l0]) (ev_bind (first_tells s (by omega)) ?_)
      rw [hz]
      exact ev_ifp (by simp [firstI]) (ev_ifp (by omega) (Ev.now _))
  | succ n ih =>
    intro s acc hn hb
    rcases lines_step s with ⟨h1, h2⟩ | ⟨j, h1, h3, h2⟩
    · refine ⟨[s], by simp [h2], Ev.step (fun k => by rw [spec_Lines.l0]) (ev_bind (first_tells s (by omega)) ?_)⟩
      rw [h1]
      exact ev_ifp (by omega) (ev_ifp (by omega) (Ev.now _))
    · have hz := extract_sz s (j + 1) s.size (Nat.le_refl _)
      obtain ⟨L, hL, hE⟩ := ih (s.extract (j + 1) s.size) (acc ++ [s.extract 0 j]) (by omega) (by rw [List.length_append]; simp; omega)
      refine ⟨s.extract 0 j :: L, by rw [List.map_cons, hL, h2], Ev.step (fun k => by rw [spec_Lines.l0]) (ev_bind (first_tells s (by omega)) ?_)⟩
      rw [h1, w64 (x := (j : Int) + 1) (by omega) (by omega)]
      refine ev_ifn (by omega) (ev_ifp (by omega) (ev_ifp (by omega) (ev_ifp (by omega) (ev_ifp (by omega) (ev_ifp (by omega) ?_)))))
      rw [show ((j : Int) + 1).toNat = j + 1 from by omega, show ((j : Int)).toNat = j from by omega]
      rw [List.append_assoc] at hE
      exact hE
theorem last_tells (s : ByteArray) (hs : s.size ≤ 4611686018427387904) : Ev (fun k => spec_last.f k s (⟨#[10]⟩ : ByteArray) false) (lastI (nlp s) s.size) := by
  unfold spec_last.f
  rw [w64 (x := (s.size : Int) - 1) (by omega) (by omega)]
  suffices h : ∀ n : Nat, n ≤ s.size → Ev (fun k => spec_last.l0 k s (⟨#[10]⟩ : ByteArray) false ((n : Int) - 1)) (lastI (nlp s) n) from h s.size (Nat.le_refl _)
  intro n
  induction n with
  | zero => intro _; exact Ev.step (fun k => by rw [spec_last.l0]) (ev_ifn (by omega) (ev_some (r := (-1 : Int)) rfl))
  | succ n ih =>
    intro hn
    rw [show ((n + 1 : Nat) : Int) - 1 = (n : Int) from by omega]
    refine Ev.step (fun k => by rw [spec_last.l0, w64 (x := (n : Int) - 1) (by omega) (by omega)]) (ev_ifp (by omega) (ev_ifp (by omega) (ev_ifp (by omega) (ev_bind (newline_tells _) ?_))))
    unfold lastI
    cases h : nlp s n with
    | true => exact ev_ifp (by unfold nlp at h; rw [h]; rfl) (Ev.now _)
    | false => exact ev_ifn (by unfold nlp at h; rw [h]; simp) (ih (by omega))
section
variable {s : ByteArray} {n : Nat} {A : List (List Int)} {h : List Int} {B : List (List Int)} {P Q : ByteArray} {L : List ByteArray}
/-- The row and the column of a place by the reference. -/
theorem spot_spec (S : Spot s n A h B P Q L) (hs : s.size ≤ 1000) : Ev (fun k => spec_Row.f k s (n : Int)) (rowB s n : Int) ∧ Ev (fun k => spec_Column.f k s (n : Int)) (colB s n : Int) := by
  have hr := runesOf_asc S.asc
  have hl := ints_length s
  have hn := S.inside
  have hle := S.le
  have hz := S.sizes.1
  have eB : spec_Before.f s (n : Int) = some P := by
    unfold spec_Before.f
    rw [if_pos (by rw [hr]; omega)]
    simp only [Option.bind_some]
    rw [if_pos (by omega), if_pos (by rw [hr, hl]; omega), Int.toNat_natCast, S.bef]
  constructor
  · unfold spec_Row.f
    rw [eB]
    simp only [Option.bind_some]
    obtain ⟨L', hL', hE'⟩ := specLines_tells P.size P [] (Nat.le_refl _) (by simp; omega)
    unfold spec_Lines.f
    refine ev_bind hE' (ev_some ?_)
    have e : (([] : List ByteArray) ++ L').length = A.length + 1 := by
      rw [List.nil_append, ← List.length_map (f := ints), hL', S.one]; simp
    have hrs := S.rows
    have hlen := S.len
    rw [e, w64 (by omega) (by omega), S.rowB_is]; omega
  · unfold spec_Column.f spec_LineBefore.f
    rw [eB]
    simp only [Option.bind_some]
    have hint : ints P = joinL A ++ h.take (n - (joinL A).length) := by
      have h1 := linesL_join (ints P)
      rw [S.one, joinL_append, joinL_cons] at h1
      simp only [joinL, List.flatMap_nil] at h1
      rw [← List.append_assoc] at h1
      exact (List.append_cancel_right h1).symm
    have hfree : (10 : Int) ∉ h := linesL_free (ints s) h (by rw [S.lines]; simp)
    have hwi := S.within
    have hlast : lastI (nlp P) P.size = ((joinL A).length : Int) - 1 := by
      refine lastI_is _ (joinL A).length _ (by omega) (fun i h1 h2 => ?_) ?_
      · have hx := bt_list P i h2
        unfold nlp
        refine decide_eq_false fun h10 => ?_
        have hi : (ints P)[i]'(by rw [ints_length]; exact h2) = 10 := hx.symm.trans h10
        have hi2 : (ints P)[i]'(by rw [ints_length]; exact h2) ∈ h := by
          simp only [hint]
          rw [List.getElem_append_right h1]
          exact List.mem_of_mem_take (List.getElem_mem _)
        rw [hi] at hi2
        exact hfree hi2
      · rcases List.eq_nil_or_concat A with rfl | ⟨A', a, hA⟩
        · exact .inl rfl
        · right
          rw [List.concat_eq_append] at hA
          subst hA
          have hj : joinL (A' ++ [a]) = (joinL A' ++ a) ++ [10] := by simp [joinL]
          have hjl := congrArg List.length hj
          simp only [List.length_append, List.length_cons, List.length_nil] at hjl
          have hx := bt_list P ((joinL (A' ++ [a])).length - 1) (by omega)
          unfold nlp
          refine decide_eq_true (hx.trans ?_)
          simp only [hint, hj]
          rw [List.getElem_append_left (by simp)]
          simp
    refine ev_bind (a := P.extract (joinL A).length P.size) (ev_bind (last_tells P (by omega)) ?_) ?_
    · rw [hlast, w64 (x := ((joinL A).length : Int) - 1 + 1) (by omega) (by omega), show ((joinL A).length : Int) - 1 + 1 = ((joinL A).length : Int) from by omega]
      refine ev_ifp (by omega) (ev_ifp (by omega) (ev_some ?_))
      rw [Int.toNat_natCast]
    · have hx := asc_extract S.ascP (joinL A).length P.size
      have hzz := extract_size P (joinL A).length P.size (Nat.le_refl _)
      have hr2 := runesOf_asc hx
      unfold spec_count.f
      rw [hr2, ints_length, hzz, S.colB_is]
      refine ev_bind (a := ((P.size - (joinL A).length : Nat) : Int)) (ev_ifp (by omega) (Ev.now _)) (ev_some ?_)
      omega
/-- Where a place of a row and a column lies. -/
theorem moved (S : Spot s n A h B P Q L) (r c : Nat) (hr : r < rowsB s) (hn : n = indexB s r c) : rowB s n = r ∧ colB s n = min c h.length ∧ tailB s n = h.length - min c h.length := by
  have hl : r < (linesL (ints s)).length := hr
  have hA : A.length < (linesL (ints s)).length := by rw [S.lines]; simp
  have hLA : (linesL (ints s)).take A.length = A := by rw [S.lines]; simp
  have hLh : (linesL (ints s))[A.length]'hA = h := by simp [S.lines]
  have hw := S.within
  have hle := S.le
  unfold indexB at hn
  rw [List.getD_eq_getElem?_getD, List.getElem?_eq_getElem hl, Option.getD_some] at hn
  have e1 := join_succ (linesL (ints s)) A.length hA
  have e2 := join_succ (linesL (ints s)) r hl
  rw [hLA, hLh] at e1
  have hAr : A.length = r := by
    rcases Nat.lt_trichotomy A.length r with h1 | h1 | h1
    · have := join_mono (linesL (ints s)) (i := A.length + 1) (j := r) (by omega)
      omega
    · exact h1
    · have := join_mono (linesL (ints s)) (i := r + 1) (j := A.length) (by omega)
      rw [hLA] at this
      omega
  subst hAr
  rw [hLA, hLh] at hn
  refine ⟨S.rowB_is, ?_, ?_⟩
  · rw [S.colB_is]; omega
  · rw [S.tailB_is]; omega
end
theorem placed {s : ByteArray} {n r : Nat} (hs : s.size ≤ 1000) (hasc : Asc s) (hn : n ≤ s.size) (hr : r < rowsB s) : Ev (fun k => laws_placed7.f k s (indexB s r (colB s n) : Int) s (n : Int) (r : Int)) true := by
  have hm := index_le s r (colB s n) hr
  obtain ⟨m, hme⟩ : ∃ m, m = indexB s r (colB s n) := ⟨_, rfl⟩
  rw [← hme] at hm ⊢
  obtain ⟨A, h, B, P, Q, L, S, hE⟩ := spot_ s m (by omega) hasc hm
  obtain ⟨A0, h0, B0, P0, Q0, L0, S0, hE0⟩ := spot_ s n (by omega) hasc hn
  obtain ⟨U, V, hU, hV, eA⟩ := S.around_tells hE
  obtain ⟨m1, m2, m3⟩ := moved S r (colB s n) hr hme
  have hcol := (spot_spec S0 hs).2
  have hVz : V.size = tailB s m := by rw [S.tailB_is, ← ints_length, hV, List.length_drop]
  have hmc : (m : Int) - ((joinL A).length : Int) = (colB s m : Int) := by have := S.colB_is; have := S.le; omega
  have hrow := S.rowB_is
  unfold laws_placed7.f
  refine ev_ifp rfl (ev_ifn (by omega) ?_)
  rw [decide_eq_false (show ¬ (m : Int) > (s.size : Int) by omega)]
  refine Ev.step (fun k => by rw [laws_placed7.j0]) (ev_ifn Bool.false_ne_true (ev_bind eA ?_))
  refine ev_ifp (show (A.length : Int) = (r : Int) by omega) ?_
  refine ev_bind hcol ?_
  simp only
  by_cases hc : (m : Int) - ((joinL A).length : Int) = (colB s n : Int)
  · exact ev_ifp hc (Ev.now _)
  · refine ev_ifn hc (ev_bind hcol (ev_ifp (by omega) (ev_some ?_)))
    have hV0 : V.size = 0 := by omega
    have : V.toList = [] := by
      have : V = ⟨#[]⟩ := ByteArray.ext (Array.eq_empty_of_size_eq_zero hV0)
      rw [this, ByteArray.toList_eq]
    rw [this]; rfl
theorem FnUpDown : laws_FnUpDown.Pure := by
  intro s a c hs ha hc
  refine Ev.rounds (r := true) ?_
  unfold laws_FnUpDown.f
  have e0 : ∃ t, laws_zzFits2.f s a = some t ∧ (t = true → s.size ≤ 2147483647) := by
    unfold laws_zzFits2.f
    by_cases h : (s.size : Int) > 2147483647
    · exact ⟨false, if_pos h, by simp⟩
    · exact ⟨true, if_neg h, fun _ => by omega⟩
  obtain ⟨t, ht, hq⟩ := e0
  rw [ht]
  simp only [Option.bind_some]
  cases t with
  | false => exact ev_ifn (by simp) (Ev.now _)
  | true =>
    refine ev_ifp rfl ?_
    have hz := hq rfl
    obtain ⟨b, hb, q⟩ := right_tells s a (by omega)
    refine ev_bind hb ?_
    cases b with
    | false => exact ev_ifn (by simp) (Ev.now _)
    | true =>
      obtain ⟨g1, hasc, g2, g3⟩ := q rfl
      obtain ⟨n, rfl⟩ := Int.eq_ofNat_of_zero_le g2
      obtain ⟨A, h, B, P, Q, L, S, hE⟩ := spot_ s n (by omega) hasc (by omega)
      obtain ⟨U, V, hU, hV, eA⟩ := S.around_tells hE
      have hok : OkT s n := ⟨by omega, hasc, by omega⟩
      have hp := places_le hok
      have hE0 : Asc (⟨#[]⟩ : ByteArray) := by intro b hb; simp at hb
      obtain ⟨eR, eC⟩ := spot_spec S g1
      obtain ⟨L', hL', hE'⟩ := specLines_tells s.size s [] (Nat.le_refl _) (by simp; omega)
      have hLL : L' = L := lines_unique (hL'.trans (S.lines.trans S.map.symm))
      subst hLL
      have hrs := S.rows
      have hlen := S.len
      have hrow := S.rowB_is
      have hrows := S.rowsB_is
      have hc' : 0 ≤ c ∧ c ≤ 255 := by
        have h1 : IntKind.u8.min = 0 := by decide
        have h2 : IntKind.u8.max = 255 := by decide
        simp only [Lit.wf, Bool.and_eq_true, decide_eq_true_eq, h1, h2] at hc
        exact hc
      refine ev_ifp rfl ?_
      refine ev_bind (a := L') hE' (ev_bind eR ?_)
      have hb1 : 0 ≤ (rowB s n : Int) + 1 ∧ (rowB s n : Int) + 1 ≤ 5002 ∧ 0 < (L'.length : Int) - (rowB s n : Int) ∧ (L'.length : Int) - (rowB s n : Int) ≤ 5002 := by omega
      have WW := Lib.hid (show wrap64 c = c ∧ wrap64 ((rowB s n : Int) + 1) = (rowB s n : Int) + 1 ∧ wrap64 ((L'.length : Int) - (rowB s n : Int)) = (L'.length : Int) - (rowB s n : Int) from ⟨w64 (by omega) (by omega), w64 (by omega) (by omega), w64 (by omega) (by omega)⟩)
      have fin : Ev (fun k => (PAroundOf.impl_AroundOf.f k s (n : Int)).bind fun bt189 => (if bt189.2.2.2.2.2.1 = (rowB s n : Int) then (some ((bt189.2.2.2.2.2.2.2.1.length : Int) == (L'.length : Int))) else (some false))) true := by
        refine ev_bind eA ?_
        refine ev_ifp (show (A.length : Int) = (rowB s n : Int) by omega) ?_
        exact ev_some (beq_self_eq_true _)
      have down : Ev (fun k => laws_FnUpDown.j0 k c (L'.length : Int) (rowB s n : Int) s (n : Int)) true := by
        refine Ev.step (fun k => by rw [laws_FnUpDown.j0, WW.out.2.2, WW.out.1]) (ev_ifn (by omega) ?_)
        by_cases hd : Int.tmod c ((L'.length : Int) - (rowB s n : Int)) > 0
        · have hlt := Int.tmod_lt_of_pos c (show 0 < (L'.length : Int) - (rowB s n : Int) by omega)
          obtain ⟨e, he⟩ := Int.eq_ofNat_of_zero_le (Int.le_of_lt hd)
          have he' : Int.tmod c ((L'.length : Int) - (rowB s n : Int)) = (e : Int) := he
          rw [he'] at hd hlt
          rw [he']
          have e6 : estep ⟨s, n, -1⟩ ⟨6, (e : Int), ⟨#[]⟩, false⟩ = some (⟨s, indexB s (rowB s n + e) (colB s n), (colB s n : Int)⟩, ⟨#[]⟩) := by
            unfold estep; rw [if_pos ⟨hok, by show 0 ≤ (e : Int); omega, by show (e : Int) ≤ 1000000000; omega, by show (0 : Nat) ≤ 5000; omega, hE0⟩]
            show (if (-1 : Int) = -1 ∧ (e : Int) ≤ 1000000 ∧ rowB s n + (e : Int).toNat < rowsB s then _ else _) = _
            rw [if_pos ⟨rfl, by omega, by rw [Int.toNat_natCast]; omega⟩, Int.toNat_natCast]
          refine ev_ifp hd (ev_bind (ev_const (one7_tells hok e6)) (ev_ifp rfl (ev_bind (a := true) ?_ (ev_ifp rfl fin))))
          rw [w64 (x := (rowB s n : Int) + (e : Int)) (by omega) (by omega), show (rowB s n : Int) + (e : Int) = ((rowB s n + e : Nat) : Int) by omega]
          exact placed (s := s) (n := n) (r := rowB s n + e) g1 hasc (by omega) (by omega)
        · exact ev_ifn hd fin
      rw [WW.out.2.1, WW.out.1]
      refine ev_ifn (by omega) ?_
      by_cases hd : Int.tmod c ((rowB s n : Int) + 1) > 0
      · have hlt := Int.tmod_lt_of_pos c (show 0 < (rowB s n : Int) + 1 by omega)
        obtain ⟨e, he⟩ := Int.eq_ofNat_of_zero_le (Int.le_of_lt hd)
        have he' : Int.tmod c ((rowB s n : Int) + 1) = (e : Int) := he
        rw [he'] at hd hlt
        rw [he']
        have e5 : estep ⟨s, n, -1⟩ ⟨5, (e : Int), ⟨#[]⟩, false⟩ = some (⟨s, indexB s (rowB s n - e) (colB s n), (colB s n : Int)⟩, ⟨#[]⟩) := by
          unfold estep; rw [if_pos ⟨hok, by show 0 ≤ (e : Int); omega, by show (e : Int) ≤ 1000000000; omega, by show (0 : Nat) ≤ 5000; omega, hE0⟩]
          show (if (-1 : Int) = -1 ∧ (e : Int) ≤ 1000000 then _ else _) = _
          rw [if_pos ⟨rfl, by omega⟩, Int.toNat_natCast]
        refine ev_ifp hd (ev_bind (ev_const (one7_tells hok e5)) (ev_ifp rfl (ev_bind (a := true) ?_ (ev_ifp rfl down))))
        rw [w64 (x := (rowB s n : Int) - (e : Int)) (by omega) (by omega), show (rowB s n : Int) - (e : Int) = ((rowB s n - e : Nat) : Int) by omega]
        exact placed (s := s) (n := n) (r := rowB s n - e) g1 hasc (by omega) (by omega)
      · exact ev_ifn hd down
end Go.Proofs.YtkfmjkiefckgoaaGreatDoor.Pure
