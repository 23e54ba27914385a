/- Far to the left is the line's beginning, far to the right its end: the pure statement behind the law FnMovesEnds; no condition. -/
import Derived.Test.YtkfmjkiefckgoaaDoorPFnMovesEndsx2
namespace Go.Proofs.YtkfmjkiefckgoaaDoor.Pure
open Go.RowKit Go.Proofs.YtkfmjkiefckgoaaDoor.R Go.Proofs.YtkfmjkiefckgoaaDoor.X Go.Proofs.YtkfmjkiefckgoaaDoor.PFnMovesEnds Go.Proofs.YtkfmjkiefckgoaaDoor.H Go.Proofs.YtkfmjkiefckgoaaDoorW.PrintWords Go.Proofs.YtkfmjkiefckgoaaDoorW.PrintLast
set_option linter.unusedVariables false

theorem ascii_loop (s : ByteArray) (hs : s.size ≤ 4611686018427387904) (d : Nat) : ∀ i : Nat, i + d = s.size →
    ∃ b, Ev (fun k => spec_ASCII.l0 k s (i : Int)) b ∧ (b = true → s.size ≤ 1000 ∧ ∀ j (hj : j < s.size), i ≤ j → (s.data.toList[j]'(by rw [dlen]; exact hj)).toNat < 128) := by
  induction d with
  | zero =>
    intro i hi
    exact ⟨decide ((s.size : Int) ≤ 1000), Ev.step (fun k => by rw [spec_ASCII.l0]) (ev_ifn (by omega) (Ev.now _)), fun h => ⟨by have := of_decide_eq_true h; omega, fun j hj h => by omega⟩⟩
  | succ d ih =>
    intro i hi
    obtain ⟨b, hb, hq⟩ := ih (i + 1) (by omega)
    rw [show ((i + 1 : Nat) : Int) = (i : Int) + 1 from by omega] at hb
    have e1 := bt_nat s i (by omega)
    by_cases h : (128 : Int) ≤ bt s (i : Int)
    · exact ⟨false, Ev.step (fun k => by rw [spec_ASCII.l0]) (ev_ifp (by omega) (ev_ifp (by omega) (ev_ifp h (Ev.now _)))), fun h => by cases h⟩
    · refine ⟨b, Ev.step (fun k => by rw [spec_ASCII.l0, w64 (x := (i : Int) + 1) (by omega) (by omega)]) (ev_ifp (by omega) (ev_ifp (by omega) (ev_ifn h hb))), fun hbt => ⟨(hq hbt).1, fun j hj hij => ?_⟩⟩
      rcases Nat.eq_or_lt_of_le hij with rfl | hlt
      · omega
      · exact (hq hbt).2 j hj hlt
theorem right_tells (s : ByteArray) (a : Int) (hs : s.size ≤ 4611686018427387904) : ∃ b, Ev (fun k => spec_DocRight.f k s a) b ∧ (b = true → s.size ≤ 1000 ∧ Asc s ∧ 0 ≤ a ∧ a ≤ s.size) := by
  obtain ⟨b, hb, hq⟩ := ascii_loop s hs s.size 0 (by omega)
  unfold spec_DocRight.f spec_ASCII.f
  cases b with
  | false => exact ⟨false, ev_bind hb (ev_ifn (by simp) (Ev.now _)), fun h => by cases h⟩
  | true =>
    have hasc : Asc s := fun x hx => by
      obtain ⟨j, hj, rfl⟩ := List.getElem_of_mem hx
      exact (hq rfl).2 j (by rw [← dlen]; exact hj) (Nat.zero_le _)
    by_cases h0 : a ≥ 0
    · refine ⟨decide (a ≤ (s.size : Int)), ev_bind hb (ev_ifp rfl (ev_ifp h0 (Ev.now _))), fun h => ⟨(hq rfl).1, hasc, h0, of_decide_eq_true h⟩⟩
    · exact ⟨false, ev_bind hb (ev_ifp rfl (ev_ifn h0 (Ev.now _))), fun h => by cases h⟩

theorem one7_tells {s : ByteArray} {n : Nat} (hok : OkT s n) {op nn : Int} {text : ByteArray} {flag : Bool} {r : ES × ByteArray} (h : estep ⟨s, n, -1⟩ ⟨op, nn, text, flag⟩ = some r) : laws_one7.f s (n : Int) op nn text flag = some (r.1.t, (r.1.p : Int), r.2, true) := by
  unfold laws_one7.f impl_EditedFrom.f
  rw [if_pos ⟨by omega, by rw [Int.toNat_natCast]; exact hok, by simp⟩]
  have e : erun ⟨s, (n : Int).toNat, -1⟩ ([(⟨op, nn, text, flag⟩ : S30)].map ed_of) = some (r.1, [r.2]) := by
    rw [Int.toNat_natCast]
    simp only [List.map_cons, List.map_nil, ed_of, erun, h, Option.bind_some]
  rw [e]
  simp only [Option.bind_some, if_true, List.length_cons, List.length_nil]
  rfl

theorem FnMovesEnds : laws_FnMovesEnds.Pure := by
  intro s a hs ha
  refine Ev.rounds (r := true) ?_
  unfold laws_FnMovesEnds.f
  have e0 : ∃ t, laws_zzFits2.f s a = some t ∧ (t = true → s.size ≤ 2147483647) := by
    unfold laws_zzFits2.f
    by_cases h : (s.size : Int) > 2147483647
    · exact ⟨false, if_pos h, by simp⟩
    · exact ⟨true, if_neg h, fun _ => by omega⟩
  obtain ⟨t, ht, hq⟩ := e0
  rw [ht]
  simp only [Option.bind_some]
  cases t with
  | false => exact ev_ifn (by simp) (Ev.now _)
  | true =>
    refine ev_ifp rfl ?_
    have hz := hq rfl
    obtain ⟨b, hb, q⟩ := right_tells s a (by omega)
    refine ev_bind hb ?_
    cases b with
    | false => exact ev_ifn (by simp) (Ev.now _)
    | true =>
      obtain ⟨g1, hasc, g2, g3⟩ := q rfl
      obtain ⟨n, rfl⟩ := Int.eq_ofNat_of_zero_le g2
      obtain ⟨A, h, B, P, Q, L, S, hE⟩ := spot_ s n (by omega) hasc (by omega)
      obtain ⟨U, V, hU, hV, eA⟩ := S.around_tells hE
      have hok : OkT s n := ⟨by omega, hasc, by omega⟩
      have hp := places_le hok
      have hUz : U.size = colB s n := by
        have := S.within
        rw [S.colB_is, ← ints_length, hU, List.length_take]; omega
      have hVz : V.size = tailB s n := by rw [S.tailB_is, ← ints_length, hV, List.length_drop]
      have hE0 : Asc (⟨#[]⟩ : ByteArray) := by intro b hb; simp at hb
      have e3 : estep ⟨s, n, -1⟩ ⟨3, 2000, ⟨#[]⟩, false⟩ = some (⟨s, n - min 2000 (colB s n), -1⟩, ⟨#[]⟩) := by
        unfold estep; rw [if_pos ⟨hok, by decide, by decide, by decide, hE0⟩]; rfl
      have e4 : estep ⟨s, n, -1⟩ ⟨4, 2000, ⟨#[]⟩, false⟩ = some (⟨s, n + min 2000 (tailB s n), -1⟩, ⟨#[]⟩) := by
        unfold estep; rw [if_pos ⟨hok, by decide, by decide, by decide, hE0⟩]; rfl
      have e13 : estep ⟨s, n, -1⟩ ⟨13, 0, ⟨#[]⟩, false⟩ = some (⟨s, n - colB s n, -1⟩, ⟨#[]⟩) := by
        unfold estep; rw [if_pos ⟨hok, by decide, by decide, by decide, hE0⟩]; rfl
      have e12 : estep ⟨s, n, -1⟩ ⟨12, 0, ⟨#[]⟩, false⟩ = some (⟨s, n + tailB s n, -1⟩, ⟨#[]⟩) := by
        unfold estep; rw [if_pos ⟨hok, by decide, by decide, by decide, hE0⟩]; rfl
      refine ev_ifp rfl ?_
      refine ev_bind (ev_const (one7_tells hok e3)) (ev_ifp rfl ?_)
      refine ev_bind (ev_const (one7_tells hok e4)) (ev_ifp rfl ?_)
      refine ev_bind (ev_const (one7_tells hok e13)) (ev_ifp rfl ?_)
      refine ev_bind (ev_const (one7_tells hok e12)) (ev_ifp rfl ?_)
      refine ev_bind eA ?_
      simp only
      refine ev_ifp (by simp; omega) (ev_ifp (by simp; omega) (ev_ifp (by rw [w64 (by omega) (by omega)]; omega) (ev_some ?_)))
      rw [w64 (by omega) (by omega)]
      exact beq_iff_eq.mpr (by omega)
end Go.Proofs.YtkfmjkiefckgoaaDoor.Pure
