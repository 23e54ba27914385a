/- Words begin and end at their places in the texts around a cursor: the pure statement behind the law FnWordsPlaced; no condition. -/
import Derived.Test.YtkfmjkiefckgoaaPFnWordsPlacedx1
import Derived.Test.YtkfmjkiefckgoaaXAround
namespace Go.Proofs.Ytkfmjkiefckgoaa.Pure
open Go.RowKit Go.Proofs.Ytkfmjkiefckgoaa.R Go.Proofs.Ytkfmjkiefckgoaa.X Go.Proofs.Ytkfmjkiefckgoaa.PFnWordsPlaced Go.Proofs.Ytkfmjkiefckgoaa.H Go.Proofs.YtkfmjkiefckgoaaW.PrintWords Go.Proofs.YtkfmjkiefckgoaaW.PrintLast
set_option linter.unusedVariables false

theorem ascii_loop (s : ByteArray) (hs : s.size ≤ 4611686018427387904) (d : Nat) : ∀ i : Nat, i + d = s.size →
    ∃ b, Ev (fun k => spec_ASCII.l0 k s (i : Int)) b ∧ (b = true → s.size ≤ 1000 ∧ ∀ j (hj : j < s.size), i ≤ j → (s.data.toList[j]'(by rw [dlen]; exact hj)).toNat < 128) := by
  induction d with
  | zero =>
    intro i hi
    exact ⟨decide ((s.size : Int) ≤ 1000), Ev.step (fun k => by rw [spec_ASCII.l0]) (ev_ifn (by omega) (Ev.now _)), fun h => ⟨by have := of_decide_eq_true h; omega, fun j hj h => by omega⟩⟩
  | succ d ih =>
    intro i hi
    obtain ⟨b, hb, hq⟩ := ih (i + 1) (by omega)
    rw [show ((i + 1 : Nat) : Int) = (i : Int) + 1 from by omega] at hb
    have e1 := bt_nat s i (by omega)
    by_cases h : (128 : Int) ≤ bt s (i : Int)
    · exact ⟨false, Ev.step (fun k => by rw [spec_ASCII.l0]) (ev_ifp (by omega) (ev_ifp (by omega) (ev_ifp h (Ev.now _)))), fun h => by cases h⟩
    · refine ⟨b, Ev.step (fun k => by rw [spec_ASCII.l0, w64 (x := (i : Int) + 1) (by omega) (by omega)]) (ev_ifp (by omega) (ev_ifp (by omega) (ev_ifn h hb))), fun hbt => ⟨(hq hbt).1, fun j hj hij => ?_⟩⟩
      rcases Nat.eq_or_lt_of_le hij with rfl | hlt
      · omega
      · exact (hq hbt).2 j hj hlt
theorem right_tells (s : ByteArray) (a : Int) (hs : s.size ≤ 4611686018427387904) : ∃ b, Ev (fun k => spec_DocRight.f k s a) b ∧ (b = true → s.size ≤ 1000 ∧ Asc s ∧ 0 ≤ a ∧ a ≤ s.size) := by
  obtain ⟨b, hb, hq⟩ := ascii_loop s hs s.size 0 (by omega)
  unfold spec_DocRight.f spec_ASCII.f
  cases b with
  | false => exact ⟨false, ev_bind hb (ev_ifn (by simp) (Ev.now _)), fun h => by cases h⟩
  | true =>
    have hasc : Asc s := fun x hx => by
      obtain ⟨j, hj, rfl⟩ := List.getElem_of_mem hx
      exact (hq rfl).2 j (by rw [← dlen]; exact hj) (Nat.zero_le _)
    by_cases h0 : a ≥ 0
    · refine ⟨decide (a ≤ (s.size : Int)), ev_bind hb (ev_ifp rfl (ev_ifp h0 (Ev.now _))), fun h => ⟨(hq rfl).1, hasc, h0, of_decide_eq_true h⟩⟩
    · exact ⟨false, ev_bind hb (ev_ifp rfl (ev_ifn h0 (Ev.now _))), fun h => by cases h⟩

theorem FnWordsPlaced : laws_FnWordsPlaced.Pure := by
  intro s a hs ha
  refine Ev.rounds (r := true) ?_
  unfold laws_FnWordsPlaced.f
  have e0 : ∃ t, laws_zzFits2.f s a = some t ∧ (t = true → s.size ≤ 2147483647) := by
    unfold laws_zzFits2.f
    by_cases h : (s.size : Int) > 2147483647
    · exact ⟨false, if_pos h, by simp⟩
    · exact ⟨true, if_neg h, fun _ => by omega⟩
  obtain ⟨t, ht, hq⟩ := e0
  rw [ht]
  simp only [Option.bind_some]
  cases t with
  | false => exact ev_ifn (by simp) (Ev.now _)
  | true =>
    refine ev_ifp rfl ?_
    have hz := hq rfl
    obtain ⟨b, hb, q⟩ := right_tells s a (by omega)
    refine ev_bind hb ?_
    cases b with
    | false => exact ev_ifn (by simp) (Ev.now _)
    | true =>
      obtain ⟨g1, hasc, g2, g3⟩ := q rfl
      obtain ⟨n, rfl⟩ := Int.eq_ofNat_of_zero_le g2
      obtain ⟨A, h, B, P, Q, L, S, hE⟩ := spot_ s n g1 hasc (by omega)
      obtain ⟨U, V, hU, hV, eA⟩ := S.around_tells hE
      have hzz := S.sizes
      refine ev_ifp rfl (ev_bind eA ?_)
      simp only
      have b1 := start_bounds P (by omega)
      have b2 := end_bounds Q (by omega)
      refine ev_bind S.places_tells ?_
      simp only
      refine ev_ifn (by omega) (ev_ifn (by omega) (ev_ifn (by omega) (ev_ifn (by omega) (ev_ifn (by omega) (ev_ifn (by omega) (ev_ifn (by omega) (ev_ifn (by omega) ?_)))))))
      refine ev_ifp (by omega) (ev_ifp (by rw [S.whole]) (ev_ifp (by omega) (ev_ifp (by omega) (ev_ifp (by trivial) (ev_ifp (by omega) (ev_ifp (by omega) (ev_ifp (by trivial) (ev_ifp (by omega) (ev_ifp (by omega) (ev_ifp (by trivial) (ev_ifp (by omega) (ev_ifp (by omega) (ev_ifp (by trivial) (ev_ifp (by omega) (ev_some ?_)))))))))))))))
      exact decide_eq_true (by omega)
end Go.Proofs.Ytkfmjkiefckgoaa.Pure
