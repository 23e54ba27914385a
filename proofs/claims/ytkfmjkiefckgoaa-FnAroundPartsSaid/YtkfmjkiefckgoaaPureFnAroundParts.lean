/- What stands ahead of a cursor and behind it is the text, the lines are the text: the pure statement behind the law FnAroundParts; no condition. -/
import Derived.Test.YtkfmjkiefckgoaaPFnAroundPartsx1
import Derived.Test.YtkfmjkiefckgoaaXAround
namespace Go.Proofs.Ytkfmjkiefckgoaa.Pure
open Go.RowKit Go.Proofs.Ytkfmjkiefckgoaa.R Go.Proofs.Ytkfmjkiefckgoaa.X Go.Proofs.Ytkfmjkiefckgoaa.PFnAroundParts Go.Proofs.Ytkfmjkiefckgoaa.H Go.Proofs.YtkfmjkiefckgoaaW.PrintWords Go.Proofs.YtkfmjkiefckgoaaW.PrintLast
set_option linter.unusedVariables false

theorem ascii_loop (s : ByteArray) (hs : s.size ≤ 4611686018427387904) (d : Nat) : ∀ i : Nat, i + d = s.size →
    ∃ b, Ev (fun k => spec_ASCII.l0 k s (i : Int)) b ∧ (b = true → s.size ≤ 1000 ∧ ∀ j (hj : j < s.size), i ≤ j → (s.data.toList[j]'(by rw [dlen]; exact hj)).toNat < 128) := by
  induction d with
  | zero =>
    intro i hi
    exact ⟨decide ((s.size : Int) ≤ 1000), Ev.step (fun k => by rw [spec_ASCII.l0]) (ev_ifn (by omega) (Ev.now _)), fun h => ⟨by have := of_decide_eq_true h; omega, fun j hj h => by omega⟩⟩
  | succ d ih =>
    intro i hi
    obtain ⟨b, hb, hq⟩ := ih (i + 1) (by omega)
    rw [show ((i + 1 : Nat) : Int) = (i : Int) + 1 from by omega] at hb
    have e1 := bt_nat s i (by omega)
    by_cases h : (128 : Int) ≤ bt s (i : Int)
    · exact ⟨false, Ev.step (fun k => by rw [spec_ASCII.l0]) (ev_ifp (by omega) (ev_ifp (by omega) (ev_ifp h (Ev.now _)))), fun h => by cases h⟩
    · refine ⟨b, Ev.step (fun k => by rw [spec_ASCII.l0, w64 (x := (i : Int) + 1) (by omega) (by omega)]) (ev_ifp (by omega) (ev_ifp (by omega) (ev_ifn h hb))), fun hbt => ⟨(hq hbt).1, fun j hj hij => ?_⟩⟩
      rcases Nat.eq_or_lt_of_le hij with rfl | hlt
      · omega
      · exact (hq hbt).2 j hj hlt
theorem right_tells (s : ByteArray) (a : Int) (hs : s.size ≤ 4611686018427387904) : ∃ b, Ev (fun k => spec_DocRight.f k s a) b ∧ (b = true → s.size ≤ 1000 ∧ Asc s ∧ 0 ≤ a ∧ a ≤ s.size) := by
  obtain ⟨b, hb, hq⟩ := ascii_loop s hs s.size 0 (by omega)
  unfold spec_DocRight.f spec_ASCII.f
  cases b with
  | false => exact ⟨false, ev_bind hb (ev_ifn (by simp) (Ev.now _)), fun h => by cases h⟩
  | true =>
    have hasc : Asc s := fun x hx => by
      obtain ⟨j, hj, rfl⟩ := List.getElem_of_mem hx
      exact (hq rfl).2 j (by rw [← dlen]; exact hj) (Nat.zero_le _)
    by_cases h0 : a ≥ 0
    · refine ⟨decide (a ≤ (s.size : Int)), ev_bind hb (ev_ifp rfl (ev_ifp h0 (Ev.now _))), fun h => ⟨(hq rfl).1, hasc, h0, of_decide_eq_true h⟩⟩
    · exact ⟨false, ev_bind hb (ev_ifp rfl (ev_ifn h0 (Ev.now _))), fun h => by cases h⟩


theorem rd_L (L : List ByteArray) (i : Nat) (h : i < L.length) : rdOf ByteArray.empty L (i : Int) = L[i] := by
  unfold rdOf
  rw [show ((i : Int)).toNat = i from by omega, List.getD_eq_getElem?_getD, List.getElem?_eq_getElem h]
  rfl
theorem join_at (L : List ByteArray) (i : Nat) (h : i < L.length) : joinL ((L.map ints).take (i + 1)) = joinL ((L.map ints).take i) ++ ints L[i] ++ [10] := by
  rw [List.take_succ_eq_append_getElem (by simpa using h), joinL_append]
  simp [joinL]
theorem join_loop (s P Q U V W c10 c11 c12 c13 : ByteArray) (n r c : Int) (b : Bool) (v : Int) (L : List ByteArray) (R : Bool) (hl : L.length ≤ 1001) (hj : (joinL (L.map ints)).length ≤ 1000000)
    (hE : ∀ x : ByteArray, ints x ++ [10] = joinL (L.map ints) → Ev (fun k => (if P.size + Q.size ≤ 9223372036854775807 then (if (P ++ Q).toList = s.toList then (if U.size + V.size ≤ 9223372036854775807 then (if (U ++ V).toList = W.toList then (if x.toList = s.toList then (if r ≥ 0 then (if r < (L.length : Int) then (if 0 ≤ r then (some ((rdOf ByteArray.empty L r).toList == W.toList)) else (none)) else (some false)) else (some false)) else (some false)) else (some false)) else (none)) else (some false)) else (none))) R) (h0 : 0 < L.length) :
    ∀ d i : Nat, i + d = L.length → ∀ x : ByteArray, (0 < i → ints x ++ [10] = joinL ((L.map ints).take i)) → (i = 0 → x = ⟨#[]⟩) →
      Ev (fun k => laws_FnAroundParts.l0 k x (i : Int) s n P Q U V W r c L b v c10 c11 c12 c13) R := by
  intro d
  induction d with
  | zero =>
    intro i hi x hx _
    refine Ev.step (fun k => by rw [laws_FnAroundParts.l0]) (ev_ifn (by omega) (hE x ?_))
    rw [hx (by omega), List.take_of_length_le (by rw [List.length_map]; omega)]
  | succ d ih =>
    intro i hi x hx hx0
    have hil : i < L.length := by omega
    have hrd := rd_L L i hil
    have hja := join_at L i hil
    have hsz : (joinL ((L.map ints).take (i + 1))).length ≤ 1000000 := by
      have := join_mono (L.map ints) (i := i + 1) (j := (L.map ints).length) (by rw [List.length_map]; omega)
      rw [List.take_length] at this
      omega
    rw [hja] at hsz
    simp only [List.length_append, ints_length, List.length_cons, List.length_nil] at hsz
    refine Ev.step (fun k => by rw [laws_FnAroundParts.l0, hrd, w64 (x := (i : Int) + 1) (by omega) (by omega), show (i : Int) + 1 = ((i + 1 : Nat) : Int) from by omega]) (ev_ifp (by omega) ?_)
    by_cases hi0 : 0 < i
    · have e := hx hi0
      have hxl : x.size + 1 = (joinL ((L.map ints).take i)).length := by rw [← e, List.length_append, ints_length]; rfl
      have hnl : ints (⟨#[10]⟩ : ByteArray) = [10] := rfl
      have hz2 : (x ++ (⟨#[10]⟩ : ByteArray)).size = x.size + 1 := by rw [← ints_length, ints_append, List.length_append, ints_length, hnl]; rfl
      refine ev_ifp (by omega) (ev_ifp (by omega) (ev_ifp (by omega) (ev_ifp (by rw [hz2]; omega) ?_)))
      refine ih (i + 1) (by omega) _ (fun _ => ?_) (fun hh => by omega)
      rw [hja, ints_append, ints_append, hnl, e]
    · have hi00 : i = 0 := by omega
      have e := hx0 hi00
      subst e
      refine ev_ifn (by omega) (ev_ifp (by omega) (ev_ifp (by show 0 + _ ≤ _; omega) ?_))
      refine ih (i + 1) (by omega) _ (fun _ => ?_) (fun hh => by omega)
      have e0 : joinL ((L.map ints).take i) = [] := by rw [hi00]; rfl
      rw [hja, ints_append, e0]
      simp [ints]
theorem FnAroundParts : laws_FnAroundParts.Pure := by
  intro s a hs ha
  refine Ev.rounds (r := true) ?_
  unfold laws_FnAroundParts.f
  have e0 : ∃ t, laws_zzFits2.f s a = some t ∧ (t = true → s.size ≤ 2147483647) := by
    unfold laws_zzFits2.f
    by_cases h : (s.size : Int) > 2147483647
    · exact ⟨false, if_pos h, by simp⟩
    · exact ⟨true, if_neg h, fun _ => by omega⟩
  obtain ⟨t, ht, hq⟩ := e0
  rw [ht]
  simp only [Option.bind_some]
  cases t with
  | false => exact ev_ifn (by simp) (Ev.now _)
  | true =>
    refine ev_ifp rfl ?_
    have hz := hq rfl
    obtain ⟨b, hb, q⟩ := right_tells s a (by omega)
    refine ev_bind hb ?_
    cases b with
    | false => exact ev_ifn (by simp) (Ev.now _)
    | true =>
      obtain ⟨g1, hasc, g2, g3⟩ := q rfl
      obtain ⟨n, rfl⟩ := Int.eq_ofNat_of_zero_le g2
      obtain ⟨A, h, B, P, Q, L, S, hE⟩ := spot_ s n g1 hasc (by omega)
      obtain ⟨U, V, hU, hV, eA⟩ := S.around_tells hE
      have hzz := S.sizes
      refine ev_ifp rfl (ev_bind eA ?_)
      simp only
      have hmapl : L.map ints = linesL (ints s) := by rw [S.lines, S.map]
      have hrow := S.row
      have hj : (joinL (L.map ints)) = ints s ++ [10] := by rw [hmapl, linesL_join]
      refine join_loop s P Q U V (U ++ V) _ _ _ _ (n : Int) (A.length : Int) _ _ _ L true S.rows (by rw [hj, List.length_append, ints_length]; simp; omega) (fun x hx => ?_) (by omega) L.length 0 (by omega) ⟨#[]⟩ (fun h => by omega) (fun _ => rfl)
      have hxs : x = s := ints_inj (List.append_cancel_right (hx.trans hj))
      have hline : L[A.length] = U ++ V := by
        refine ints_inj ?_
        rw [ints_append, hU, hV, List.take_append_drop]
        have := S.map
        have h2 : (L.map ints)[A.length]? = (A ++ h :: B)[A.length]? := by rw [this]
        rw [List.getElem?_map, List.getElem?_eq_getElem hrow] at h2
        simpa using h2
      have hUV : U.size + V.size ≤ 100000 := by
        have h1 := congrArg ByteArray.size hline
        have h2 : (U ++ V).size = U.size + V.size := by rw [← ints_length, ints_append, List.length_append, ints_length, ints_length]
        have h3 : (ints L[A.length]).length ≤ (joinL (L.map ints)).length := by
          have h4 := join_at L A.length hrow
          have h5 := join_mono (L.map ints) (i := A.length + 1) (j := (L.map ints).length) (by rw [List.length_map]; omega)
          rw [List.take_length, h4] at h5
          simp only [List.length_append] at h5
          omega
        rw [hj, List.length_append, ints_length, ints_length] at h3
        simp at h3
        omega
      rw [hxs]
      refine ev_ifp (by omega) (ev_ifp (by rw [S.whole]) (ev_ifp (by omega) (ev_ifp rfl (ev_ifp rfl (ev_ifp (by omega) (ev_ifp (by omega) (ev_ifp (by omega) (ev_some ?_))))))))
      rw [rd_L L A.length hrow, hline]
      simp
end Go.Proofs.Ytkfmjkiefckgoaa.Pure
