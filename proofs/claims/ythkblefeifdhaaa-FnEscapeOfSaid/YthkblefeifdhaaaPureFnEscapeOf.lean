/- The key of a sign behind an escape, and what is left of what follows: the pure statement behind the law FnEscapeOf; no condition. -/
import Derived.Test.YthkblefeifdhaaaPFnEscapeOfx1
import Derived.Test.YthkblefeifdhaaaXPure
namespace Go.Proofs.Ythkblefeifdhaaa.Pure
open Go.RowKit Go.Proofs.Ythkblefeifdhaaa.R Go.Proofs.Ythkblefeifdhaaa.X Go.Proofs.Ythkblefeifdhaaa.PFnEscapeOf Go.Proofs.Ythkblefeifdhaaa.H Go.Proofs.YthkblefeifdhaaaW.PrintWords Go.Proofs.YthkblefeifdhaaaW.PrintLast
set_option linter.unusedVariables false

theorem ascii_loop (s : ByteArray) (hs : s.size ≤ 2147483647) (d : Nat) : ∀ i : Nat, i + d = s.size →
    ∃ b, Ev (fun k => laws_ascii9.l0 k s (s.size : Int) (i : Int)) b ∧ (b = true → s.size ≤ 300 ∧ ∀ j (hj : j < s.size), i ≤ j → (s.data.toList[j]'(by rw [dlen]; exact hj)).toNat < 128) := by
  induction d with
  | zero =>
    intro i hi
    exact ⟨decide ((s.size : Int) ≤ 300), Ev.step (fun k => by rw [laws_ascii9.l0]) (ev_ifn (by omega) (Ev.now _)), fun h => ⟨by have := of_decide_eq_true h; omega, fun j hj h => by omega⟩⟩
  | succ d ih =>
    intro i hi
    obtain ⟨b, hb, hq⟩ := ih (i + 1) (by omega)
    rw [show ((i + 1 : Nat) : Int) = (i : Int) + 1 from by omega] at hb
    have e1 := bt_nat s i (by omega)
    by_cases h : (128 : Int) ≤ bt s (i : Int)
    · exact ⟨false, Ev.step (fun k => by rw [laws_ascii9.l0]) (ev_ifp (by omega) (ev_ifp (by omega) (ev_ifp (by omega) (ev_ifp h (Ev.now _))))), fun h => by cases h⟩
    · refine ⟨b, Ev.step (fun k => by rw [laws_ascii9.l0, w64 (x := (i : Int) + 1) (by omega) (by omega)]) (ev_ifp (by omega) (ev_ifp (by omega) (ev_ifp (by omega) (ev_ifn h hb)))), fun hbt => ⟨(hq hbt).1, fun j hj hij => ?_⟩⟩
      rcases Nat.eq_or_lt_of_le hij with rfl | hlt
      · omega
      · exact (hq hbt).2 j hj hlt
theorem ascii_tells (s : ByteArray) (hs : s.size ≤ 2147483647) : ∃ b, Ev (fun k => laws_ascii9.f k s) b ∧ (b = true → s.size ≤ 300 ∧ Asc s) := by
  obtain ⟨b, hb, hq⟩ := ascii_loop s hs s.size 0 (by omega)
  refine ⟨b, hb, fun h => ⟨(hq h).1, fun x hx => ?_⟩⟩
  obtain ⟨j, hj, rfl⟩ := List.getElem_of_mem hx
  exact (hq h).2 j (by rw [← dlen]; exact hj) (Nat.zero_le _)


theorem escape_same (a : Int) (s : ByteArray) (h0 : 0 ≤ a) (h1 : a < 128) (hs : s.size ≤ 300) (ha : Asc s) : spec_EscapeOf.f a s = impl_EscapeOf.f a s := by
  have hr := runesOf_asc ha
  have hrb := runesBytes_ints ha
  have hl := ints_length s
  have hdl := dlen s
  have hlist : s.toList = s.data.toList := Lib.toList_data s
  unfold impl_EscapeOf.f
  rw [if_pos ⟨h0, h1, by omega⟩, hr]
  unfold spec_EscapeOf.f ekey
  by_cases k1 : a = 98
  · simp [k1, hrb]
  by_cases k2 : a = 102
  · simp [k2, hrb]
  by_cases k3 : a = 100
  · simp [k3, hrb]
  by_cases k4 : a = 20
  · simp [k4, hrb]
  by_cases k5 : a = 127
  · simp [k5, hrb]
  by_cases k6 : a = 79
  · subst k6
    cases hi : ints s with
    | nil =>
      have : s.toList = ([] : List UInt8) := by rw [hlist]; unfold ints at hi; simpa using hi
      have e0 : runesBytes ([] : List Int) = s := by rw [← hi]; exact hrb
      simp [this, e0]
    | cons d l =>
      have hne : ¬ s.toList = ([] : List UInt8) := by rw [hlist]; intro h; unfold ints at hi; rw [h] at hi; cases hi
      have hsz : 0 < s.size := by rw [← hl, hi]; simp
      have hb : bt s 0 = d := by
        have := bt_ints s 0 hsz
        rw [show ((0 : Nat) : Int) = 0 from rfl] at this
        rw [this]; simp [hi]
      have e1 : runesBytes l = s.extract 1 s.size := by
        have h2 : ints (s.extract 1 s.size) = l := by rw [ints_extract, hi]; simp; rw [← hl, hi]; simp
        rw [← h2, runesBytes_ints (asc_extract ha _ _)]
      have e2 : runesBytes (d :: l) = s := by rw [← hi]; exact hrb
      by_cases q1 : d = 72
      · subst q1
        simp [hne, hb, hsz, e1, spec_ExKey.f, wrap64]
        omega
      by_cases q2 : d = 70
      · subst q2
        simp [hne, hb, hsz, e1, spec_ExKey.f, wrap64]
        omega
      simp [hne, hb, hsz, e2, q1, q2]
  · simp [k1, k2, k3, k4, k5, k6, hrb]

theorem FnEscapeOf : laws_FnEscapeOf.Pure := by
  intro a s ha hs0
  refine Ev.rounds (r := true) ?_
  have h8 : 0 ≤ a ∧ a ≤ 255 := by simpa [Lit.wf, IntKind.min, IntKind.max, IntKind.signed, IntKind.bits] using ha
  have over : Ev (fun k => laws_FnEscapeOf.j0 k a s true) true := Ev.step (fun k => by rw [laws_FnEscapeOf.j0]) (ev_ifp rfl (Ev.now _))
  unfold laws_FnEscapeOf.f
  by_cases g0 : (s.size : Int) > 2147483647
  · exact ev_ifp g0 (Ev.now _)
  refine ev_ifn g0 ?_
  by_cases g1 : a ≥ 128
  · exact ev_ifp g1 over
  refine ev_ifn g1 ?_
  by_cases g2 : (s.size : Int) > 100
  · exact ev_ifp g2 over
  refine ev_ifn g2 ?_
  obtain ⟨b, hb, q⟩ := ascii_tells s (by omega)
  refine ev_bind hb ?_
  cases b with
  | false => exact over
  | true =>
    obtain ⟨_, hasc⟩ := q rfl
    have e := escape_same a s (by omega) (by omega) (by omega) hasc
    have ev : ∃ r, impl_EscapeOf.f a s = some r := ⟨_, by unfold impl_EscapeOf.f; rw [if_pos ⟨by omega, by omega, by omega⟩]⟩
    obtain ⟨r, hr⟩ := ev
    refine Ev.step (fun k => by rw [laws_FnEscapeOf.j0, w64 (x := a) (by omega) (by omega), e, hr]) (ev_ifn (by simp) ?_)
    have hp : impl_Printable.f 97 = some true := by simp [impl_Printable.f, readline_IsPrintable.f, wrap32]
    simp only [Option.bind_some, hp, if_true]
    exact Ev.now _
end Go.Proofs.Ythkblefeifdhaaa.Pure
