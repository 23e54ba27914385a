/- How many of some ascending numbers are at most another one: the pure statement behind the law FnBisect; no condition. -/
import Derived.Test.YthkblefeifdhaaaPFnBisectx1
import Derived.Test.YthkblefeifdhaaaXPure
namespace Go.Proofs.Ythkblefeifdhaaa.Pure
open Go.RowKit Go.Proofs.Ythkblefeifdhaaa.R Go.Proofs.Ythkblefeifdhaaa.X Go.Proofs.Ythkblefeifdhaaa.H Go.Proofs.Ythkblefeifdhaaa.PFnBisect Go.Proofs.YthkblefeifdhaaaW.PrintWords Go.Proofs.YthkblefeifdhaaaW.PrintLast

theorem cut_of_sorted (v : Int) : ∀ l : List Int, l.Pairwise (· ≤ ·) → Cut l v
  | [], _ => fun h hh => by simp at hh
  | a :: l, hp => by
    obtain ⟨h1, h2⟩ := List.pairwise_cons.1 hp
    have ih := cut_of_sorted v l h2
    intro h hh
    by_cases ha : a ≤ v
    · have e : cntLe (a :: l) v = cntLe l v + 1 := by simp [cntLe, ha]
      rw [e]
      cases h with
      | zero => simp [ha]
      | succ h =>
        have := ih h (by simpa using hh)
        simp only [List.getD_cons_succ, Nat.add_lt_add_iff_right]
        exact this
    · have e : cntLe (a :: l) v = 0 := by
        simp only [cntLe, List.length_eq_zero_iff, List.filter_eq_nil_iff]
        intro x hx
        rcases List.mem_cons.1 hx with rfl | hx
        · simpa using ha
        · have := h1 x hx; simp; omega
      rw [e]
      have hm : (a :: l).getD h 0 ∈ a :: l := by
        rw [List.getD_eq_getElem?_getD, List.getElem?_eq_getElem hh]; exact List.getElem_mem hh
      rcases List.mem_cons.1 hm with hq | hq
      · rw [hq]; constructor <;> intro h <;> omega
      · have := h1 _ hq; constructor <;> intro h <;> omega

theorem bisect_loop (l : List Int) (v : Int) (hl : l.length ≤ 100) (hw : ∀ x ∈ l, 0 ≤ x ∧ x ≤ 255) (d : Nat) : ∀ (i : Nat) (ys : List Int) (s : Int), i + d = l.length → ys.length = i → ys.Pairwise (· ≤ ·) → (∀ y ∈ ys, y ≤ s) → 0 ≤ s → s ≤ 255 * i →
    Ev (fun k => laws_FnBisect.l0 k l v ys s (cntLe ys v : Int) (i : Int)) true := by
  have e1 : impl_BisectRight.f [1, 3] 2 = some 1 := by decide
  induction d with
  | zero =>
    intro i ys s hi hy hp hs h0 h1
    have e : impl_BisectRight.f ys v = some (cntLe ys v : Int) := by
      unfold impl_BisectRight.f
      rw [if_pos ⟨cut_of_sorted v ys hp, by omega⟩]
    refine Ev.step (fun k => by rw [laws_FnBisect.l0, e, e1]) (ev_ifn (by omega) ?_)
    simp only [Option.bind_some]
    exact ev_ifp trivial (ev_some (by decide))
  | succ d ih =>
    intro i ys s hi hy hp hs h0 h1
    have hlt : i < l.length := by omega
    have hx := hw (l[i]) (List.getElem_mem hlt)
    have er : rd l (i : Int) = l[i] := rd_nat l i hlt
    generalize l[i] = x at hx er
    have ec := cntLe_le ys v
    refine Ev.step (fun k => by rw [laws_FnBisect.l0, er, w64 (x := x) (by omega) (by omega), w64 (x := s + x) (by omega) (by omega), w64 (x := (i : Int) + 1) (by omega) (by omega), w64 (x := (cntLe ys v : Int) + 1) (by omega) (by omega)]) ?_
    refine ev_ifp (by omega) (ev_ifp (by omega) (ev_ifp (by omega) ?_))
    simp only [Option.bind_some]
    have hp' : (ys ++ [s + x]).Pairwise (· ≤ ·) := List.pairwise_append.2 ⟨hp, by simp, fun a ha b hb => by simp at hb; have := hs a ha; omega⟩
    have hs' : ∀ y ∈ ys ++ [s + x], y ≤ s + x := by
      intro y hy
      rcases List.mem_append.1 hy with h | h
      · have := hs y h; omega
      · simp at h; omega
    have := ih (i + 1) (ys ++ [s + x]) (s + x) (by omega) (by simp [hy]) hp' hs' (by omega) (by omega)
    rw [show ((i + 1 : Nat) : Int) = (i : Int) + 1 from by omega] at this
    by_cases hle : s + x ≤ v
    · have ec' : cntLe (ys ++ [s + x]) v = cntLe ys v + 1 := by simp [cntLe, hle]
      rw [ec'] at this
      exact ev_ifp hle (by simpa using this)
    · have ec' : cntLe (ys ++ [s + x]) v = cntLe ys v := by simp [cntLe, hle]
      rw [ec'] at this
      exact ev_ifn hle this

theorem FnBisect : laws_FnBisect.Pure := by
  intro l v h1 h2 hw hv
  refine Ev.rounds (r := true) ?_
  unfold laws_FnBisect.f
  by_cases ha : (l.length : Int) > 2147483647
  · exact ev_ifp ha (Ev.now _)
  · refine ev_ifn ha ?_
    by_cases hb : (l.length : Int) > 100
    · exact ev_ifp hb (Ev.now _)
    · refine ev_ifn hb ?_
      exact bisect_loop l v (by omega) (fun x hx => by simpa [Lit.wf, IntKind.min, IntKind.max, IntKind.signed, IntKind.bits] using hw x hx) l.length 0 [] 0 (by omega) rfl List.Pairwise.nil (by simp) (by omega) (by omega)
end Go.Proofs.Ythkblefeifdhaaa.Pure
