/- A text without sequences of colours: the pure statement behind the law FnColourless; no condition. -/
import Derived.Test.YthkblefeifdhaaaDoorQPFnColourlessx1
import Derived.Test.YthkblefeifdhaaaDoorQXPure
namespace Go.Proofs.YthkblefeifdhaaaDoor.Pure
open Go.RowKit Go.Proofs.YthkblefeifdhaaaDoor.R Go.Proofs.YthkblefeifdhaaaDoor.X Go.Proofs.YthkblefeifdhaaaDoor.H Go.Proofs.YthkblefeifdhaaaDoor.PFnColourless Go.Proofs.YthkblefeifdhaaaDoorW.PrintWords Go.Proofs.YthkblefeifdhaaaDoorW.PrintLast
set_option linter.unusedVariables false
theorem whole_one (s : ByteArray) (hs : s.size ≤ 2147483647) : ∃ b, Ev (fun k => laws_whole9.f k [s]) b ∧ (b = true → s.size ≤ 300) := by
  unfold laws_whole9.f
  have er : rdOf ByteArray.empty [s] 0 = s := rfl
  have ew : spec_Whole.f s = some (wholeB s) := by unfold spec_Whole.f; rw [if_pos (by omega)]
  have e1 : (([s] : List ByteArray).length : Int) = 1 := rfl
  by_cases h3 : (s.size : Int) > 300
  · exact ⟨false, Ev.step (fun k => by rw [laws_whole9.l0, er, e1]) (ev_ifp (by omega) (ev_ifp (by omega) (ev_ifp (by omega) (ev_ifp h3 (Ev.now _))))), by simp⟩
  · cases hw : wholeB s with
    | false => exact ⟨false, Ev.step (fun k => by rw [laws_whole9.l0, er, ew, hw, e1, Option.bind_some]) (ev_ifp (by omega) (ev_ifp (by omega) (ev_ifp (by omega) (ev_ifn h3 (ev_ifn (show ¬ (false = true) by decide) (Ev.now _)))))), by simp⟩
    | true => exact ⟨true, Ev.step (fun k => by rw [laws_whole9.l0, er, ew, hw, e1, Option.bind_some, w64 (x := (0 : Int) + 1) (by omega) (by omega)]) (ev_ifp (by omega) (ev_ifp (by omega) (ev_ifp (by omega) (ev_ifn h3 (ev_ifp rfl (Ev.step (fun k => by rw [laws_whole9.l0]) (ev_ifn (by omega) (Ev.now _)))))))), fun _ => by omega⟩
theorem m_tells (l acc : List Int) (i : Int) (r : ByteArray × Bool) (hl : l.length ≤ 1000) : ∀ d j : Nat, j + d = l.length →
    (∀ m, idxL 109 (l.drop j) = some m → Ev (fun k => spec_Colourless.l0 k l acc ((j + m + 1 : Nat) : Int)) r) → (idxL 109 (l.drop j) = none → Ev (fun k => spec_Colourless.l0 k l acc (wrap64 (i + 1))) r) →
    Ev (fun k => spec_Colourless.l1 k l acc i (j : Int)) r := by
  intro d
  induction d with
  | zero =>
    intro j hj _ hn
    refine Ev.step (fun k => by rw [spec_Colourless.l1]) (ev_ifn (by omega) (hn ?_))
    rw [List.drop_of_length_le (by omega)]; rfl
  | succ d ih =>
    intro j hj hs hn
    have hr := rd_nat l j (by omega)
    have hd := List.drop_eq_getElem_cons (show j < l.length by omega)
    rw [hd] at hs hn
    by_cases hx : l[j]'(by omega) = 109
    · have h1 := hs 0 (by rw [idxL, if_pos hx])
      rw [show ((j + 0 + 1 : Nat) : Int) = (j : Int) + 1 by omega] at h1
      exact Ev.step (fun k => by rw [spec_Colourless.l1, hr, w64 (x := (j : Int) + 1) (by omega) (by omega)]) (ev_ifp (by omega) (ev_ifp (by omega) (ev_ifp hx h1)))
    · have h1 := ih (j + 1) (by omega) (fun m hm => by
        have := hs (m + 1) (by rw [idxL, if_neg hx, hm]; rfl)
        rwa [show j + (m + 1) + 1 = j + 1 + m + 1 by omega] at this) (fun h => hn (by rw [idxL, if_neg hx, h]; rfl))
      rw [show ((j + 1 : Nat) : Int) = (j : Int) + 1 by omega] at h1
      exact Ev.step (fun k => by rw [spec_Colourless.l1, hr, w64 (x := (j : Int) + 1) (by omega) (by omega)]) (ev_ifp (by omega) (ev_ifp (by omega) (ev_ifn hx h1)))
def colR (acc : List Int) : Option (List Int) → ByteArray × Bool
  | some o => (runesBytes (acc ++ o), true)
  | none => (⟨#[]⟩, false)
theorem colR_cons (acc : List Int) (x : Int) (t : Option (List Int)) : colR acc (t.map (x :: ·)) = colR (acc ++ [x]) t := by
  cases t with
  | none => rfl
  | some o => simp [colR]
theorem col_tells (l : List Int) (hl : l.length ≤ 1000) : ∀ (d i : Nat) (acc : List Int), l.length - i ≤ d → i ≤ l.length → acc.length ≤ i → Ev (fun k => spec_Colourless.l0 k l acc (i : Int)) (colR acc (colL (l.drop i))) := by
  intro d
  induction d with
  | zero =>
    intro i acc hd hi ha
    refine Ev.step (fun k => by rw [spec_Colourless.l0]) (ev_ifn (by omega) (ev_some ?_))
    rw [List.drop_of_length_le (by omega), colL_nil]
    simp [colR]
  | succ d ih =>
    intro i acc hd hi ha
    by_cases hend : i = l.length
    · refine Ev.step (fun k => by rw [spec_Colourless.l0]) (ev_ifn (by omega) (ev_some ?_))
      rw [List.drop_of_length_le (by omega), colL_nil]
      simp [colR]
    have hlt : i < l.length := by omega
    have hr := rd_nat l i hlt
    have hdr := List.drop_eq_getElem_cons hlt
    have happ : ∀ x : Int, Ev (fun k => spec_Colourless.l0 k l (acc ++ [x]) ((i : Int) + 1)) (colR (acc ++ [x]) (colL (l.drop (i + 1)))) := by
      intro x
      have := ih (i + 1) (acc ++ [x]) (by omega) (by omega) (by simp; omega)
      rwa [show ((i + 1 : Nat) : Int) = (i : Int) + 1 by omega] at this
    by_cases hx : l[i] = 27
    · by_cases hl1 : i + 1 = l.length
      · refine Ev.step (fun k => by rw [spec_Colourless.l0, hr, w64 (x := (i : Int) + 1) (by omega) (by omega)]) (ev_ifp (by omega) (ev_ifp (by omega) (ev_ifp hx (ev_ifp (by omega) (ev_some ?_)))))
        rw [hdr, List.drop_of_length_le (by omega), hx, colL_last]; rfl
      have hlt1 : i + 1 < l.length := by omega
      have hr1 := rd_nat l (i + 1) hlt1
      rw [show ((i + 1 : Nat) : Int) = (i : Int) + 1 by omega] at hr1
      have hdr1 := List.drop_eq_getElem_cons hlt1
      by_cases hy : l[i + 1] = 91
      · refine Ev.step (fun k => by rw [spec_Colourless.l0, hr, w64 (x := (i : Int) + 1) (by omega) (by omega), w64 (x := (i : Int) + 2) (by omega) (by omega), hr1]) (ev_ifp (by omega) (ev_ifp (by omega) (ev_ifp hx (ev_ifn (by omega) (ev_ifp (by omega) (ev_ifp (by omega) (ev_ifp hy ?_)))))))
        rw [show (i : Int) + 2 = ((i + 2 : Nat) : Int) by omega, hdr, hdr1, hx, hy]
        refine m_tells l acc (i : Int) _ hl (l.length - (i + 2)) (i + 2) (by omega) (fun m hm => ?_) (fun hn => ?_)
        · have hml := idxL_lt hm
          rw [List.length_drop] at hml
          rw [colL_some _ m hm, List.drop_drop]
          exact ih (i + 2 + m + 1) acc (by omega) (by omega) (by omega)
        · rw [colL_none _ hn, w64 (x := (i : Int) + 1) (by omega) (by omega), show (i : Int) + 1 = ((i + 1 : Nat) : Int) by omega]
          have := ih (i + 1) acc (by omega) (by omega) (by omega)
          rwa [hdr1, hy] at this
      · have h1 := happ 27
        refine Ev.step (fun k => by rw [spec_Colourless.l0, hr, w64 (x := (i : Int) + 1) (by omega) (by omega), hr1, hx]) (ev_ifp (by omega) (ev_ifp (by omega) (ev_ifp rfl (ev_ifn (by omega) (ev_ifp (by omega) (ev_ifp (by omega) (ev_ifn hy (ev_ifp (by omega) ?_))))))))
        rw [hdr, hdr1, hx, colL_esc _ _ hy, colR_cons]
        rwa [hdr1] at h1
    · have h1 := happ l[i]
      refine Ev.step (fun k => by rw [spec_Colourless.l0, hr, w64 (x := (i : Int) + 1) (by omega) (by omega)]) (ev_ifp (by omega) (ev_ifp (by omega) (ev_ifn hx (ev_ifp (by omega) ?_))))
      rw [hdr, colL_plain _ _ hx, colR_cons]
      exact h1
theorem FnColourless : laws_FnColourless.Pure := by
  intro s hs
  refine Ev.rounds (r := true) ?_
  unfold laws_FnColourless.f
  by_cases hz : (s.size : Int) > 2147483647
  · exact ev_ifp hz (Ev.now _)
  refine ev_ifn hz ?_
  obtain ⟨b, hb, hq⟩ := whole_one s (by omega)
  refine ev_bind hb ?_
  cases b with
  | false => exact ev_ifn (by decide) (Ev.now _)
  | true =>
    have hsz := hq rfl
    refine ev_ifp rfl ?_
    have hrl := runesOf_length s
    have hspec : Ev (fun k => spec_Colourless.f k s) (colR [] (colL (runesOf s))) := by
      unfold spec_Colourless.f
      have := col_tells (runesOf s) (by omega) (runesOf s).length 0 [] (by omega) (by omega) (by simp)
      exact ev_ifp (by omega) (by simpa using this)
    have himpl : impl_Colourless.f s = some (colR [] (colL (runesOf s))) := by
      unfold impl_Colourless.f
      rw [if_pos (by omega)]
      cases colL (runesOf s) <;> rfl
    have ha : impl_Colourless.f (⟨#[97]⟩ : ByteArray) = some (⟨#[97]⟩, true) := by
      have e1 : runesOf (⟨#[97]⟩ : ByteArray) = [97] := by
        rw [runesOf_asc (by intro x hx; have : x = 97 := by simpa using hx
                            subst this; decide)]
        rfl
      have e2 : runesBytes [97] = ⟨#[97]⟩ := by
        have := runesBytes_ints (s := ⟨#[97]⟩) (by intro x hx; have : x = 97 := by simpa using hx
                                                   subst this; decide)
        exact this
      unfold impl_Colourless.f
      rw [if_pos (by decide), e1]
      show some (runesBytes [97], true) = _
      rw [e2]
    refine ev_bind hspec ?_
    rw [himpl, ha]
    simp only [Option.bind_some]
    refine ev_ifp trivial (ev_ifp (by simp) ?_)
    by_cases ht : (colR [] (colL (runesOf s))).2 = true
    · exact ev_ifp ht (ev_some (by simp))
    · exact ev_ifn ht (Ev.now _)
end Go.Proofs.YthkblefeifdhaaaDoor.Pure
