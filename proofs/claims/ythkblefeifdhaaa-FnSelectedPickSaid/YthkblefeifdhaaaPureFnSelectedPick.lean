/- The suggestion that is selected behind steps, and whether one is: the pure statement behind the law FnSelectedPick; no condition. -/
import Derived.Test.YthkblefeifdhaaaPFnSelectedPickx3
import Derived.Test.YthkblefeifdhaaaXPure
namespace Go.Proofs.Ythkblefeifdhaaa.Pure
open Go.RowKit Go.Proofs.Ythkblefeifdhaaa.R Go.Proofs.Ythkblefeifdhaaa.X Go.Proofs.Ythkblefeifdhaaa.PFnSelectedPick Go.Proofs.Ythkblefeifdhaaa.H Go.Proofs.YthkblefeifdhaaaW.PrintWords Go.Proofs.YthkblefeifdhaaaW.PrintLast
set_option linter.unusedVariables false

/-- What the reference chooses. -/
def pick0 (n a s : Int) : Int := if s = 1 ∧ a + 1 < n then a + 1 else if s = 2 ∧ a < 0 then n - 1 else if s = 2 then a - 1 else -1
theorem choose_tells (a n s : Int) (h0 : -1 ≤ a) (h1 : a ≤ 1000) (h2 : 0 ≤ n) (h3 : n ≤ 1000) : Ev (fun k => spec_Choose.f k a n s) (pick0 n a s) := by
  unfold pick0
  by_cases k1 : s = 1
  · by_cases k2 : a + 1 < n
    · rw [if_pos ⟨k1, k2⟩]
      unfold spec_Choose.f
      refine ev_ifp k1 (Ev.step (fun k => by rw [spec_Choose.j0, w64 (x := a + 1) (by omega) (by omega)]) (ev_ifp (by simpa using k2) (ev_some rfl)))
    · rw [if_neg (by omega), if_neg (by omega), if_neg (by omega)]
      unfold spec_Choose.f
      refine ev_ifp k1 (Ev.step (fun k => by rw [spec_Choose.j0, w64 (x := a + 1) (by omega) (by omega)]) (ev_ifn (by simpa using k2) (ev_ifn (by omega) (Ev.step (fun k => by rw [spec_Choose.j1]) (ev_ifn (by simp) (ev_ifn (by omega) (ev_some rfl)))))))
  · by_cases k2 : s = 2
    · by_cases k3 : a < 0
      · rw [if_neg (by omega), if_pos ⟨k2, k3⟩]
        unfold spec_Choose.f
        refine ev_ifn k1 (Ev.step (fun k => by rw [spec_Choose.j0]) (ev_ifn (by simp) (ev_ifp k2 (Ev.step (fun k => by rw [spec_Choose.j1, w64 (x := n - 1) (by omega) (by omega)]) (ev_ifp (by simpa using k3) (ev_some rfl))))))
      · rw [if_neg (by omega), if_neg (by omega), if_pos k2]
        unfold spec_Choose.f
        refine ev_ifn k1 (Ev.step (fun k => by rw [spec_Choose.j0]) (ev_ifn (by simp) (ev_ifp k2 (Ev.step (fun k => by rw [spec_Choose.j1, w64 (x := a - 1) (by omega) (by omega)]) (ev_ifn (by simpa using k3) (ev_ifp k2 (ev_some rfl)))))))
    · rw [if_neg (by omega), if_neg (by omega), if_neg (by omega)]
      unfold spec_Choose.f
      refine ev_ifn k1 (Ev.step (fun k => by rw [spec_Choose.j0]) (ev_ifn (by simp) (ev_ifn k2 (Ev.step (fun k => by rw [spec_Choose.j1]) (ev_ifn (by simp) (ev_ifn k2 (ev_some rfl)))))))


theorem pick_first (n : Nat) (most s : Int) (p : Int × Int) (hs : 1 ≤ s ∧ s ≤ 3) (h0 : -1 ≤ p.1) (h1 : p.1 < n) : (pick1 n most p s).1 = pick0 n p.1 s ∧ -1 ≤ pick0 n p.1 s ∧ pick0 n p.1 s < n := by
  obtain ⟨a, b⟩ := p
  dsimp only at h0 h1
  have : s = 1 ∨ s = 2 ∨ s = 3 := by omega
  rcases this with rfl | rfl | rfl
  · rw [show pick1 n most (a, b) 1 = nxt n most (a, b) from rfl]
    unfold nxt upd pick0
    dsimp only
    (repeat' split) <;> refine ⟨?_, ?_, ?_⟩ <;> (try dsimp only at *) <;> omega
  · rw [show pick1 n most (a, b) 2 = prv n most (a, b) from rfl]
    unfold prv upd pick0
    dsimp only
    (repeat' split) <;> refine ⟨?_, ?_, ?_⟩ <;> (try dsimp only at *) <;> omega
  · rw [show pick1 n most (a, b) 3 = (-1, 0) from rfl]
    unfold pick0
    (repeat' split) <;> refine ⟨?_, ?_, ?_⟩ <;> (try dsimp only at *) <;> omega

theorem pick_loop (l : List S65) (most : Int) (st : List Int) (hn : l.length ≤ 12) (hm : 1 ≤ most) (hm2 : most ≤ 10) (hl : st.length ≤ 40) (d : Nat) : ∀ i : Nat, i + d = st.length → -1 ≤ ((st.take i).foldl (pick1 l.length most) (-1, 0)).1 → ((st.take i).foldl (pick1 l.length most) (-1, 0)).1 < l.length →
    Ev (fun k => laws_FnSelectedPick.l0 k l most st ((st.take i).foldl (pick1 l.length most) (-1, 0)).1 (i : Int)) true := by
  induction d with
  | zero =>
    intro i hi h0 h1
    rw [List.take_of_length_le (by omega)] at h0 h1 ⊢
    have ef : impl_SelectedPick.f l most st = (if (st.foldl (pick1 l.length most) (-1, 0)).1 = -1 then some (⟨#[]⟩, ⟨#[]⟩, false, false)
     else if 0 ≤ (st.foldl (pick1 l.length most) (-1, 0)).1 ∧ (st.foldl (pick1 l.length most) (-1, 0)).1 < l.length then
       some ((l.getD (st.foldl (pick1 l.length most) (-1, 0)).1.toNat ⟨⟨#[]⟩, ⟨#[]⟩⟩).f0, (l.getD (st.foldl (pick1 l.length most) (-1, 0)).1.toNat ⟨⟨#[]⟩, ⟨#[]⟩⟩).f1, true, true)
     else none) := by
      unfold impl_SelectedPick.f
      rw [if_pos (by omega)]
    refine Ev.step (fun k => by rw [laws_FnSelectedPick.l0, ef]) (ev_ifn (by omega) ?_)
    generalize (st.foldl (pick1 l.length most) (-1, 0)).1 = a at *
    by_cases ha : a = -1
    · subst ha
      rw [if_pos rfl]
      simp only [Option.bind_some]
      have e1 : impl_SelectedPick.f [⟨⟨#[97]⟩, ⟨#[]⟩⟩] 1 [1] = some (⟨#[97]⟩, ⟨#[]⟩, true, true) := rfl
      rw [e1]
      refine ev_ifp (by omega) ?_
      simp only [Option.bind_some]
      exact ev_ifn (by decide) (ev_ifn (by decide) (Ev.now _))
    · rw [if_neg ha, if_pos ⟨by omega, h1⟩]
      simp only [Option.bind_some]
      refine ev_ifn (by omega) (ev_ifp trivial (ev_ifp trivial (ev_ifp (by omega) (ev_ifp (by omega) (ev_some ?_)))))
      unfold rd_T65 z65
      simp
  | succ d ih =>
    intro i hi h0 h1
    have hlt : i < st.length := by omega
    have er := rd_nat st i hlt
    have ht : (st.take (i + 1)).foldl (pick1 l.length most) (-1, 0) = pick1 l.length most ((st.take i).foldl (pick1 l.length most) (-1, 0)) st[i] := by rw [List.take_succ_eq_append_getElem hlt, List.foldl_append]; rfl
    generalize st[i] = x at *
    refine Ev.step (fun k => by rw [laws_FnSelectedPick.l0, er, w64 (x := (i : Int) + 1) (by omega) (by omega)]) (ev_ifp (by omega) (ev_ifp (by omega) ?_))
    by_cases k1 : x < 1
    · exact ev_ifp k1 (Ev.now _)
    refine ev_ifn k1 ?_
    by_cases k2 : x > 3
    · exact ev_ifp k2 (Ev.now _)
    refine ev_ifn k2 ?_
    obtain ⟨hs, hs0, hs1⟩ := pick_first l.length most x _ ⟨by omega, by omega⟩ h0 h1
    have hi' := ih (i + 1) (by omega) (by rw [ht, hs]; exact hs0) (by rw [ht, hs]; exact hs1)
    rw [ht, hs] at hi'
    refine ev_bind (choose_tells _ (l.length : Int) x h0 (by omega) (by omega) (by omega)) ?_
    exact hi'

theorem fits_tells (l : List S65) (hl : l.length ≤ maxLen) : ∃ b, Ev (fun k => laws_zzFits3.f k l) b := by
  unfold laws_zzFits3.f
  by_cases g : (l.length : Int) > 2147483647
  · exact ⟨false, ev_ifp g (Ev.now _)⟩
  suffices h : ∀ (d i : Nat), i + d = l.length → ∃ b, Ev (fun k => laws_zzFits3.l0 k l (l.length : Int) (i : Int)) b by
    obtain ⟨b, hb⟩ := h l.length 0 (by omega)
    exact ⟨b, ev_ifn g hb⟩
  intro d
  induction d with
  | zero => intro i hi; exact ⟨true, Ev.step (fun k => by rw [laws_zzFits3.l0]) (ev_ifn (by omega) (Ev.now _))⟩
  | succ d ih =>
    intro i hi
    obtain ⟨b, hb⟩ := ih (i + 1) (by omega)
    rw [show ((i + 1 : Nat) : Int) = (i : Int) + 1 from by omega] at hb
    generalize hx : rd_T65 l (i : Int) = x
    have e4 : ∃ t, laws_zzFits4.f x.f0 x.f1 = some t := by
      unfold laws_zzFits4.f
      by_cases h1 : (x.f0.size : Int) > 2147483647
      · exact ⟨_, if_pos h1⟩
      by_cases h2 : (x.f1.size : Int) > 2147483647
      · exact ⟨_, by rw [if_neg h1, if_pos h2]⟩
      exact ⟨_, by rw [if_neg h1, if_neg h2]⟩
    obtain ⟨t, ht⟩ := e4
    cases t with
    | false => exact ⟨false, Ev.step (fun k => by rw [laws_zzFits3.l0, hx, ht]) (ev_ifp (by omega) (ev_ifp (by omega) (ev_ifp (by omega) (by simp only [Option.bind_some]; exact ev_ifn (by simp) (Ev.now _)))))⟩
    | true => exact ⟨b, Ev.step (fun k => by rw [laws_zzFits3.l0, hx, ht, w64 (x := (i : Int) + 1) (by omega) (by omega)]) (ev_ifp (by omega) (ev_ifp (by omega) (ev_ifp (by omega) (by simp only [Option.bind_some]; exact ev_ifp trivial hb))))⟩

theorem FnSelectedPick : laws_FnSelectedPick.Pure := by
  intro l most st hl hg hm hs hgs
  refine Ev.rounds (r := true) ?_
  have main : ∀ c : Bool, (c = false → l.length ≤ 12 ∧ 1 ≤ most ∧ most ≤ 10 ∧ st.length ≤ 40) → Ev (fun k => laws_FnSelectedPick.j1 k l most st c) true := by
    intro c hc
    refine Ev.step (fun k => by rw [laws_FnSelectedPick.j1]) ?_
    cases c with
    | true => exact ev_ifp rfl (Ev.now _)
    | false =>
      obtain ⟨g1, g2, g3, g4⟩ := hc rfl
      refine ev_ifn (by simp) ?_
      exact pick_loop l most st g1 g2 g3 g4 st.length 0 (by omega) (by simp) (by simp; omega)
  have start : ∀ c : Bool, Ev (fun k => laws_FnSelectedPick.j0 k l most st c) true := by
    intro c
    refine Ev.step (fun k => by rw [laws_FnSelectedPick.j0]) ?_
    cases c with
    | true => exact ev_ifp rfl (Ev.now _)
    | false =>
      refine ev_ifn (by simp) ?_
      by_cases g1 : (l.length : Int) > 12
      · exact ev_ifp g1 (main true (by simp))
      refine ev_ifn g1 ?_
      by_cases g2 : most < 1
      · exact ev_ifp g2 (main true (by simp))
      refine ev_ifn g2 ?_
      by_cases g3 : most > 10
      · exact ev_ifp g3 (main true (by simp))
      refine ev_ifn g3 (main _ fun h => ?_)
      have := of_decide_eq_false h
      omega
  unfold laws_FnSelectedPick.f
  obtain ⟨b, hb⟩ := fits_tells l hl
  refine ev_bind hb ?_
  cases b with
  | true => exact ev_ifp rfl (start _)
  | false => exact ev_ifn (by simp) (start _)
end Go.Proofs.Ythkblefeifdhaaa.Pure
