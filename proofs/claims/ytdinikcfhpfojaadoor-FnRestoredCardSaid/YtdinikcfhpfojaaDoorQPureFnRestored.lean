/- A line that is backed up is back again: the pure statement behind the law FnRestored; no condition. -/
import Derived.Test.YtdinikcfhpfojaaDoorQPFnRestoredx2
import Derived.Test.YtdinikcfhpfojaaDoorQXPure
namespace Go.Proofs.YtdinikcfhpfojaaDoor.Pure
open Go.RowKit Go.Proofs.YtdinikcfhpfojaaDoor.PFnRestored Go.Proofs.YtdinikcfhpfojaaDoorW.PrintWords Go.Proofs.YtdinikcfhpfojaaDoorW.PrintLast Go.Proofs.YtdinikcfhpfojaaDoor.X Go.Proofs.YtdinikcfhpfojaaDoor.R Go.Proofs.YtdinikcfhpfojaaDoor.H Go.Proofs.YtdinikcfhpfojaaDoor.G
set_option linter.unusedVariables false
set_option linter.unusedSimpArgs false
theorem ascii_loop (s : ByteArray) (hs : s.size ≤ 2147483647) (d : Nat) : ∀ i : Nat, i + d = s.size →
    ∃ b, Ev (fun k => laws_ascii9.l0 k s (s.size : Int) (i : Int)) b ∧ (b = true → s.size ≤ 300 ∧ ∀ j (hj : j < s.size), i ≤ j → (s.data.toList[j]'(by rw [dlen]; exact hj)).toNat < 128) := by
  induction d with
  | zero =>
    intro i hi
    exact ⟨decide ((s.size : Int) ≤ 300), Ev.step (fun k => by rw [laws_ascii9.l0]) (ev_ifn (by omega) (Ev.now _)), fun h => ⟨by have := of_decide_eq_true h; omega, fun j hj h => by omega⟩⟩
  | succ d ih =>
    intro i hi
    obtain ⟨b, hb, hq⟩ := ih (i + 1) (by omega)
    rw [show ((i + 1 : Nat) : Int) = (i : Int) + 1 from by omega] at hb
    have e1 := bt_nat s i (by omega)
    by_cases h : (128 : Int) ≤ bt s (i : Int)
    · exact ⟨false, Ev.step (fun k => by rw [laws_ascii9.l0]) (ev_ifp (by omega) (ev_ifp (by omega) (ev_ifp (by omega) (ev_ifp h (Ev.now _))))), fun h => by cases h⟩
    · refine ⟨b, Ev.step (fun k => by rw [laws_ascii9.l0, w64 (x := (i : Int) + 1) (by omega) (by omega)]) (ev_ifp (by omega) (ev_ifp (by omega) (ev_ifp (by omega) (ev_ifn h hb)))), fun hbt => ⟨(hq hbt).1, fun j hj hij => ?_⟩⟩
      rcases Nat.eq_or_lt_of_le hij with rfl | hlt
      · omega
      · exact (hq hbt).2 j hj hlt
theorem ascii_tells (s : ByteArray) (hs : s.size ≤ 2147483647) : ∃ b, Ev (fun k => laws_ascii9.f k s) b ∧ (b = true → s.size ≤ 300 ∧ Asc s) := by
  obtain ⟨b, hb, hq⟩ := ascii_loop s hs s.size 0 (by omega)
  refine ⟨b, hb, fun h => ⟨(hq h).1, fun x hx => ?_⟩⟩
  obtain ⟨j, hj, rfl⟩ := List.getElem_of_mem hx
  exact (hq h).2 j (by rw [← dlen]; exact hj) (Nat.zero_le _)
theorem line_tells (s : ByteArray) (a : Int) (hs : s.size ≤ 2147483647) : ∃ b, Ev (fun k => laws_line9.f k s a) b ∧ (b = true → s.size ≤ 300 ∧ Asc s ∧ 0 ≤ a ∧ a ≤ s.size) := by
  obtain ⟨b, hb, hq⟩ := ascii_tells s hs
  unfold laws_line9.f
  cases b with
  | false => exact ⟨false, ev_bind hb (ev_ifn (by simp) (Ev.now _)), fun h => by cases h⟩
  | true =>
    by_cases h0 : a ≥ 0
    · exact ⟨decide (a ≤ (s.size : Int)), ev_bind hb (ev_ifp rfl (ev_ifp h0 (Ev.now _))), fun h => ⟨(hq rfl).1, (hq rfl).2, h0, of_decide_eq_true h⟩⟩
    · exact ⟨false, ev_bind hb (ev_ifp rfl (ev_ifn h0 (Ev.now _))), fun h => by cases h⟩
def ab : ByteArray := ⟨#[97, 98]⟩
theorem ab_asc : Asc ab := by
  intro x hx
  have : x = 97 ∨ x = 98 := by simpa [ab] using hx
  rcases this with rfl | rfl <;> decide
theorem ab_length : (runesOf ab).length = 2 := by rw [runesOf_asc ab_asc, ints_length]; rfl
def KB (s : KS) : Prop := s.buf.length ≤ 100 ∧ s.kill.length ≤ 100
/-- A step that turns no row. -/
def Good (k : Key5) : Prop := (k.op = 2 ∨ k.op = 3 ∨ k.op = 4 ∨ k.op = 5 ∨ k.op = 10 ∨ k.op = 11 ∨ k.op = 15 ∨ k.op = 9 ∨ k.op = 20) ∧ k.text = ab ∧ k.n = 1
theorem good_step (s : KS) (k : Key5) (hs : KB s) (hk : Good k) : ∃ p, step5 s k = some p ∧ KB p.1 := by
  obtain ⟨op, t, n, f, b⟩ := k
  obtain ⟨hop, ht, hn⟩ := hk
  dsimp only at *
  subst ht
  subst hn
  obtain ⟨g1, g2⟩ := hs
  have hc : KOK s ∧ ab.size ≤ 1000000 ∧ (0 : Int) ≤ 1 ∧ (1 : Int) ≤ 1114111 := ⟨by unfold KOK; omega, by decide, by omega, by omega⟩
  rcases hop with rfl | rfl | rfl | rfl | rfl | rfl | rfl | rfl | rfl
  · exact ⟨(kfwd s, -1), by unfold step5; dsimp only; rw [if_pos hc]; rfl, g1, g2⟩
  · exact ⟨({ s with idx := s.idx - 1 }, -1), by unfold step5; dsimp only; rw [if_pos hc]; rfl, g1, g2⟩
  · exact ⟨({ s with idx := 0 }, -1), by unfold step5; dsimp only; rw [if_pos hc]; rfl, g1, g2⟩
  · exact ⟨({ s with idx := s.buf.length }, -1), by unfold step5; dsimp only; rw [if_pos hc]; rfl, g1, g2⟩
  · exact ⟨({ s with idx := prevW s.buf (s.idx - 1) }, if 0 < s.idx then 1 else 0), by unfold step5; dsimp only; rw [if_pos hc]; rfl, g1, g2⟩
  · exact ⟨({ s with idx := nextW s.buf (s.buf.length - (s.idx + 1)) (s.idx + 1) }, -1), by unfold step5; dsimp only; rw [if_pos hc]; rfl, g1, g2⟩
  · exact ⟨(⟨s.buf.take s.idx, s.idx, s.buf.drop s.idx⟩, -1), by unfold step5; dsimp only; rw [if_pos hc]; rfl, by simp only [List.length_take]; omega, by simp only [List.length_drop]; omega⟩
  · exact ⟨(⟨[], 0, s.buf⟩, -1), by unfold step5; dsimp only; rw [if_pos hc]; rfl, by simp, g1⟩
  · exact ⟨(⟨runesOf ab, (1 : Int).toNat, s.kill⟩, -1), by unfold step5; dsimp only; rw [if_pos hc, if_neg (by decide), if_neg (by decide), if_neg (by decide), if_neg (by decide), if_neg (by decide), if_pos rfl, if_pos (by rw [ab_length]; decide)], by show (runesOf ab).length ≤ 100; rw [ab_length]; omega, g2⟩
theorem good_run : ∀ (ks : List Key5) (s : KS), KB s → (∀ k ∈ ks, Good k) → (krun s ks).isSome = true
  | [], s, _, _ => rfl
  | k :: ks, s, hs, h => by
    obtain ⟨p, h1, h2⟩ := good_step s k hs (h k (by simp))
    simp only [krun, h1, Option.bind_some]
    exact good_run ks p.1 h2 (fun k hk => h k (by simp [hk]))
theorem op_tells (y : Int) (h0 : 0 ≤ y) (h1 : y < 9) : rd [2, 3, 4, 5, 10, 11, 15, 9, 20] y = 2 ∨ rd [2, 3, 4, 5, 10, 11, 15, 9, 20] y = 3 ∨ rd [2, 3, 4, 5, 10, 11, 15, 9, 20] y = 4 ∨ rd [2, 3, 4, 5, 10, 11, 15, 9, 20] y = 5 ∨ rd [2, 3, 4, 5, 10, 11, 15, 9, 20] y = 10 ∨ rd [2, 3, 4, 5, 10, 11, 15, 9, 20] y = 11 ∨ rd [2, 3, 4, 5, 10, 11, 15, 9, 20] y = 15 ∨ rd [2, 3, 4, 5, 10, 11, 15, 9, 20] y = 9 ∨ rd [2, 3, 4, 5, 10, 11, 15, 9, 20] y = 20 := by
  have : y = 0 ∨ y = 1 ∨ y = 2 ∨ y = 3 ∨ y = 4 ∨ y = 5 ∨ y = 6 ∨ y = 7 ∨ y = 8 := by omega
  rcases this with e | e | e | e | e | e | e | e | e <;> rw [e] <;> decide
theorem loop_tells (t : ByteArray) (a : Nat) (ls : List Int) (ht : t.size ≤ 100) (hasc : Asc t) (ha : a ≤ t.size) (hn : ls.length ≤ 20) (hg : ∀ x ∈ ls, 0 ≤ x ∧ x ≤ 255) (d : Nat) : ∀ (i : Nat) (ks : List S29), i + d = ls.length → ks.length = i → (∀ k ∈ ks, Good (key_of k)) →
    Ev (fun k => laws_FnRestored.l0 k ls ks (ls.length : Int) (i : Int) t (a : Int)) true := by
  induction d with
  | zero =>
    intro i ks hi hk hm
    have hr := runesOf_asc hasc
    have hrun := good_run (ks.map key_of) ⟨runesOf t, (a : Int).toNat, []⟩ ⟨by rw [hr, ints_length]; exact ht, by simp⟩ (fun k hk => by obtain ⟨x, hx, rfl⟩ := List.mem_map.1 hk; exact hm x hx)
    have hf : impl_Restored.f t (a : Int) ks = some (t, (a : Int), true) := by
      unfold impl_Restored.f
      rw [if_pos ⟨by omega, by omega, by rw [hr, ints_length]; omega, by omega, hrun⟩, hr, runesBytes_ints hasc]
    refine Ev.step (fun k => by rw [laws_FnRestored.l0, hf]) (ev_ifn (by omega) ?_)
    simp only [Option.bind_some]
    exact ev_ifp trivial (ev_some (by simp))
  | succ d ih =>
    intro i ks hi hk hm
    have hlt : i < ls.length := by omega
    have hx := hg _ (List.getElem_mem hlt)
    have er := rd_nat ls i hlt
    generalize ls[i] = x at *
    have ht9 : Int.tmod x 9 = x % 9 := Int.tmod_eq_emod_of_nonneg hx.1
    have hm0 : 0 ≤ x % 9 := by omega
    have hm9 : x % 9 < 9 := by omega
    refine Ev.step (fun k => by rw [laws_FnRestored.l0, er, ht9, w64 (x := (i : Int) + 1) (by omega) (by omega)]) (ev_ifp (by omega) ?_)
    simp only [Option.bind_some]
    refine ev_ifp (by omega) (ev_ifp (by omega) (ev_ifp hm0 (ev_ifp (by simpa using hm9) (ev_ifp (by omega) ?_))))
    have := ih (i + 1) (ks ++ [(⟨rd [2, 3, 4, 5, 10, 11, 15, 9, 20] (x % 9), ⟨#[97, 98]⟩, 1, false, false⟩ : S29)]) (by omega) (by simp [hk]) (fun k hk => by
      rw [List.mem_append, List.mem_singleton] at hk
      rcases hk with hk | rfl
      · exact hm k hk
      · exact ⟨op_tells _ hm0 hm9, rfl, rfl⟩)
    rw [show ((i + 1 : Nat) : Int) = (i : Int) + 1 from by omega] at this
    exact this
theorem FnRestored : laws_FnRestored.Pure := by
  intro t a ls ht ha hln hg
  refine Ev.rounds (r := true) ?_
  have hgx : ∀ x ∈ ls, 0 ≤ x ∧ x ≤ 255 := fun x hx => by
    have := hg x hx
    simp only [Lit.wf, Bool.and_eq_true, decide_eq_true_eq] at this
    have e1 : IntKind.u8.min = 0 := rfl
    have e2 : IntKind.u8.max = 255 := rfl
    omega
  have j1 : ∀ b : Bool, (b = false → t.size ≤ 100 ∧ Asc t ∧ 0 ≤ a ∧ a ≤ t.size ∧ ls.length ≤ 20) → Ev (fun k => laws_FnRestored.j1 k ls b t a) true := by
    intro b hb
    refine Ev.step (fun k => by rw [laws_FnRestored.j1]) ?_
    cases b with
    | true => exact ev_ifp rfl (Ev.now _)
    | false =>
      obtain ⟨h1, h2, h3, h4, h5⟩ := hb rfl
      obtain ⟨i, rfl⟩ := Int.eq_ofNat_of_zero_le h3
      exact ev_ifn (by simp) (loop_tells t i ls h1 h2 (by omega) h5 hgx ls.length 0 [] (by omega) rfl (by simp))
  have j0 : ∀ b : Bool, (b = false → t.size ≤ 2147483647) → Ev (fun k => laws_FnRestored.j0 k ls b t a) true := by
    intro b hb
    refine Ev.step (fun k => by rw [laws_FnRestored.j0]) ?_
    cases b with
    | true => exact ev_ifp rfl (Ev.now _)
    | false =>
      refine ev_ifn (by simp) ?_
      obtain ⟨b2, hb2, hq⟩ := line_tells t a (hb rfl)
      refine ev_bind hb2 ?_
      cases b2 with
      | false => exact ev_ifn (by simp) (j1 true (by simp))
      | true =>
        obtain ⟨h1, h2, h3, h4⟩ := hq rfl
        refine ev_ifp rfl ?_
        by_cases g1 : (t.size : Int) > 100
        · exact ev_ifp g1 (j1 true (by simp))
        refine ev_ifn g1 (j1 _ (fun hb => ?_))
        have := of_decide_eq_false hb
        exact ⟨by omega, h2, h3, h4, by omega⟩
  unfold laws_FnRestored.f
  by_cases hz : (t.size : Int) > 2147483647
  · have e : laws_zzFits11.f t a = some false := if_pos hz
    simp only [e, Option.bind_some]
    exact ev_ifn (by simp) (j0 true (by simp))
  have e : laws_zzFits11.f t a = some true := if_neg hz
  simp only [e, Option.bind_some]
  exact ev_ifp trivial (j0 _ (fun _ => by omega))
end Go.Proofs.YtdinikcfhpfojaaDoor.Pure
