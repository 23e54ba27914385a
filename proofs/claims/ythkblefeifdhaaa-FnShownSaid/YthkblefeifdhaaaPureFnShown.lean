/- A suggestion that is selected is among those that are shown: the pure statement behind the law FnShown; no condition. -/
import Derived.Test.YthkblefeifdhaaaPFnShownx1
import Derived.Test.YthkblefeifdhaaaXPure
namespace Go.Proofs.Ythkblefeifdhaaa.Pure
open Go.RowKit Go.Proofs.Ythkblefeifdhaaa.R Go.Proofs.Ythkblefeifdhaaa.X Go.Proofs.Ythkblefeifdhaaa.PFnShown Go.Proofs.Ythkblefeifdhaaa.H Go.Proofs.YthkblefeifdhaaaW.PrintWords Go.Proofs.YthkblefeifdhaaaW.PrintLast
set_option linter.unusedVariables false

/-- What the reference chooses. -/
def pick0 (n a s : Int) : Int := if s = 1 ∧ a + 1 < n then a + 1 else if s = 2 ∧ a < 0 then n - 1 else if s = 2 then a - 1 else -1
theorem choose_tells (a n s : Int) (h0 : -1 ≤ a) (h1 : a ≤ 1000) (h2 : 0 ≤ n) (h3 : n ≤ 1000) : Ev (fun k => spec_Choose.f k a n s) (pick0 n a s) := by
  unfold pick0
  by_cases k1 : s = 1
  · by_cases k2 : a + 1 < n
    · rw [if_pos ⟨k1, k2⟩]
      unfold spec_Choose.f
      refine ev_ifp k1 (Ev.step (fun k => by rw [spec_Choose.j0, w64 (x := a + 1) (by omega) (by omega)]) (ev_ifp (by simpa using k2) (ev_some rfl)))
    · rw [if_neg (by omega), if_neg (by omega), if_neg (by omega)]
      unfold spec_Choose.f
      refine ev_ifp k1 (Ev.step (fun k => by rw [spec_Choose.j0, w64 (x := a + 1) (by omega) (by omega)]) (ev_ifn (by simpa using k2) (ev_ifn (by omega) (Ev.step (fun k => by rw [spec_Choose.j1]) (ev_ifn (by simp) (ev_ifn (by omega) (ev_some rfl)))))))
  · by_cases k2 : s = 2
    · by_cases k3 : a < 0
      · rw [if_neg (by omega), if_pos ⟨k2, k3⟩]
        unfold spec_Choose.f
        refine ev_ifn k1 (Ev.step (fun k => by rw [spec_Choose.j0]) (ev_ifn (by simp) (ev_ifp k2 (Ev.step (fun k => by rw [spec_Choose.j1, w64 (x := n - 1) (by omega) (by omega)]) (ev_ifp (by simpa using k3) (ev_some rfl))))))
      · rw [if_neg (by omega), if_neg (by omega), if_pos k2]
        unfold spec_Choose.f
        refine ev_ifn k1 (Ev.step (fun k => by rw [spec_Choose.j0]) (ev_ifn (by simp) (ev_ifp k2 (Ev.step (fun k => by rw [spec_Choose.j1, w64 (x := a - 1) (by omega) (by omega)]) (ev_ifn (by simpa using k3) (ev_ifp k2 (ev_some rfl)))))))
    · rw [if_neg (by omega), if_neg (by omega), if_neg (by omega)]
      unfold spec_Choose.f
      refine ev_ifn k1 (Ev.step (fun k => by rw [spec_Choose.j0]) (ev_ifn (by simp) (ev_ifn k2 (Ev.step (fun k => by rw [spec_Choose.j1]) (ev_ifn (by simp) (ev_ifn k2 (ev_some rfl)))))))

/-- What holds behind each step: the one that is selected is a suggestion or none, and it is among those shown. -/
def Seen (n : Nat) (most : Int) (p : Int × Int) : Prop := -1 ≤ p.1 ∧ p.1 < n ∧ 0 ≤ p.2 ∧ p.2 < n ∧ (p.1 < 0 ∨ p.2 ≤ p.1 ∧ p.1 < p.2 + most) ∧ (0 ≤ p.1 ∨ p.2 = 0)
theorem seen_step (n : Nat) (most s : Int) (p : Int × Int) (hn : 1 ≤ n) (hm : 1 ≤ most) (hs : 1 ≤ s ∧ s ≤ 3) (h : Seen n most p) : Seen n most (pick1 n most p s) ∧ (pick1 n most p s).1 = pick0 n p.1 s := by
  obtain ⟨a, b⟩ := p
  obtain ⟨h1, h2, h3, h4, h5, h6⟩ := h
  simp only at h1 h2 h3 h4 h5 h6
  have : s = 1 ∨ s = 2 ∨ s = 3 := by omega
  rcases this with rfl | rfl | rfl
  · rw [show pick1 n most (a, b) 1 = nxt n most (a, b) from rfl]
    unfold nxt upd pick0
    dsimp only
    (repeat' split) <;> dsimp only [Seen] <;> refine ⟨⟨?_, ?_, ?_, ?_, ?_, ?_⟩, ?_⟩ <;> omega
  · rw [show pick1 n most (a, b) 2 = prv n most (a, b) from rfl]
    unfold prv upd pick0
    dsimp only
    (repeat' split) <;> dsimp only [Seen] <;> refine ⟨⟨?_, ?_, ?_, ?_, ?_, ?_⟩, ?_⟩ <;> omega
  · rw [show pick1 n most (a, b) 3 = (-1, 0) from rfl]
    unfold pick0
    dsimp only [Seen]
    (repeat' split) <;> refine ⟨⟨?_, ?_, ?_, ?_, ?_, ?_⟩, ?_⟩ <;> omega
theorem shown_loop (n : Nat) (most : Int) (l : List Int) (hn : 1 ≤ n) (hn2 : n ≤ 40) (hm : 1 ≤ most) (hm2 : most ≤ 20) (hl : l.length ≤ 60) (d : Nat) : ∀ i : Nat, i + d = l.length → Seen n most ((l.take i).foldl (pick1 n most) (-1, 0)) →
    Ev (fun k => laws_FnShown.l0 k n most l ((l.take i).foldl (pick1 n most) (-1, 0)).1 (i : Int)) true := by
  induction d with
  | zero =>
    intro i hi h
    rw [List.take_of_length_le (by omega)] at h ⊢
    have e : impl_Shown.f n most l = some (l.foldl (pick1 n most) (-1, 0)) := by
      unfold impl_Shown.f
      rw [if_pos (by omega), Int.toNat_natCast]
    refine Ev.step (fun k => by rw [laws_FnShown.l0, e]) (ev_ifn (by omega) ?_)
    generalize l.foldl (pick1 n most) (-1, 0) = p at *
    obtain ⟨a, b⟩ := p
    obtain ⟨h1, h2, h3, h4, h5, h6⟩ := h
    dsimp only at *
    simp only [Option.bind_some]
    refine ev_ifp trivial (ev_ifp (by omega) (ev_ifp (by omega) ?_))
    by_cases k : a < 0
    · exact ev_ifp k (Ev.now _)
    · refine ev_ifn k (ev_ifp (by omega) (ev_some ?_))
      rw [w64 (by omega) (by omega)]
      exact decide_eq_true (by omega)
  | succ d ih =>
    intro i hi h
    have hlt : i < l.length := by omega
    have er := rd_nat l i hlt
    have ht : (l.take (i + 1)).foldl (pick1 n most) (-1, 0) = pick1 n most ((l.take i).foldl (pick1 n most) (-1, 0)) l[i] := by rw [List.take_succ_eq_append_getElem hlt, List.foldl_append]; rfl
    generalize l[i] = x at *
    refine Ev.step (fun k => by rw [laws_FnShown.l0, er, w64 (x := (i : Int) + 1) (by omega) (by omega)]) (ev_ifp (by omega) (ev_ifp (by omega) ?_))
    by_cases k1 : x < 1
    · exact ev_ifp k1 (Ev.now _)
    refine ev_ifn k1 ?_
    by_cases k2 : x > 3
    · exact ev_ifp k2 (Ev.now _)
    refine ev_ifn k2 ?_
    have hs := seen_step n most x _ hn hm ⟨by omega, by omega⟩ h
    have hi' := ih (i + 1) (by omega) (by rw [ht]; exact hs.1)
    rw [ht, hs.2] at hi'
    obtain ⟨h1, h2, _⟩ := h
    refine ev_bind (choose_tells _ n x h1 (by omega) (by omega) (by omega)) ?_
    exact hi'

theorem FnShown : laws_FnShown.Pure := by
  intro a b l ha hb h1 h2 hw
  refine Ev.rounds (r := true) ?_
  have start : ∀ c : Bool, (c = false → 1 ≤ a ∧ a ≤ 40 ∧ 1 ≤ b ∧ b ≤ 20 ∧ l.length ≤ 60) → Ev (fun k => laws_FnShown.j0 k a b l c) true := by
    intro c hc
    refine Ev.step (fun k => by rw [laws_FnShown.j0]) ?_
    cases c with
    | true => exact ev_ifp rfl (Ev.now _)
    | false =>
      obtain ⟨g1, g2, g3, g4, g5⟩ := hc rfl
      obtain ⟨n, rfl⟩ := Int.eq_ofNat_of_zero_le (show 0 ≤ a by omega)
      refine ev_ifn (by simp) ?_
      exact shown_loop n b l (by omega) (by omega) g3 g4 g5 l.length 0 (by omega) ⟨by simp, by simp; omega, by simp, by simp; omega, by simp, by simp⟩
  unfold laws_FnShown.f
  by_cases g0 : (l.length : Int) > 2147483647
  · exact ev_ifp g0 (Ev.now _)
  refine ev_ifn g0 ?_
  by_cases g1 : a < 1
  · exact ev_ifp g1 (start true (by simp))
  refine ev_ifn g1 ?_
  by_cases g2 : a > 40
  · exact ev_ifp g2 (start true (by simp))
  refine ev_ifn g2 ?_
  by_cases g3 : b < 1
  · exact ev_ifp g3 (start true (by simp))
  refine ev_ifn g3 ?_
  by_cases g4 : b > 20
  · exact ev_ifp g4 (start true (by simp))
  refine ev_ifn g4 ?_
  refine start _ fun h => ?_
  have := of_decide_eq_false h
  omega
end Go.Proofs.Ythkblefeifdhaaa.Pure
