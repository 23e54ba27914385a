/- Steps that move do not change the text, and stay in it: the pure statement behind the law FnMovesKeep; no condition. -/
import Derived.Test.YtdinikcfhpfojaaDoorPFnMovesKeepx2
import Derived.Test.YtdinikcfhpfojaaDoorHSteps
namespace Go.Proofs.YtdinikcfhpfojaaDoor.Pure
open Go.RowKit Go.Proofs.YtdinikcfhpfojaaDoor.PFnMovesKeep Go.Proofs.YtdinikcfhpfojaaDoorW.PrintWords Go.Proofs.YtdinikcfhpfojaaDoorW.PrintLast Go.Proofs.YtdinikcfhpfojaaDoor.X Go.Proofs.YtdinikcfhpfojaaDoor.R Go.Proofs.YtdinikcfhpfojaaDoor.H
set_option linter.unusedVariables false
set_option linter.unusedSimpArgs false

theorem ascii_loop (s : ByteArray) (hs : s.size ≤ 2147483647) (d : Nat) : ∀ i : Nat, i + d = s.size →
    ∃ b, Ev (fun k => laws_ascii9.l0 k s (s.size : Int) (i : Int)) b ∧ (b = true → s.size ≤ 300 ∧ ∀ j (hj : j < s.size), i ≤ j → (s.data.toList[j]'(by rw [dlen]; exact hj)).toNat < 128) := by
  induction d with
  | zero =>
    intro i hi
    exact ⟨decide ((s.size : Int) ≤ 300), Ev.step (fun k => by rw [laws_ascii9.l0]) (ev_ifn (by omega) (Ev.now _)), fun h => ⟨by have := of_decide_eq_true h; omega, fun j hj h => by omega⟩⟩
  | succ d ih =>
    intro i hi
    obtain ⟨b, hb, hq⟩ := ih (i + 1) (by omega)
    rw [show ((i + 1 : Nat) : Int) = (i : Int) + 1 from by omega] at hb
    have e1 := bt_nat s i (by omega)
    by_cases h : (128 : Int) ≤ bt s (i : Int)
    · exact ⟨false, Ev.step (fun k => by rw [laws_ascii9.l0]) (ev_ifp (by omega) (ev_ifp (by omega) (ev_ifp (by omega) (ev_ifp h (Ev.now _))))), fun h => by cases h⟩
    · refine ⟨b, Ev.step (fun k => by rw [laws_ascii9.l0, w64 (x := (i : Int) + 1) (by omega) (by omega)]) (ev_ifp (by omega) (ev_ifp (by omega) (ev_ifp (by omega) (ev_ifn h hb)))), fun hbt => ⟨(hq hbt).1, fun j hj hij => ?_⟩⟩
      rcases Nat.eq_or_lt_of_le hij with rfl | hlt
      · omega
      · exact (hq hbt).2 j hj hlt
theorem ascii_tells (s : ByteArray) (hs : s.size ≤ 2147483647) : ∃ b, Ev (fun k => laws_ascii9.f k s) b ∧ (b = true → s.size ≤ 300 ∧ Asc s) := by
  obtain ⟨b, hb, hq⟩ := ascii_loop s hs s.size 0 (by omega)
  refine ⟨b, hb, fun h => ⟨(hq h).1, fun x hx => ?_⟩⟩
  obtain ⟨j, hj, rfl⟩ := List.getElem_of_mem hx
  exact (hq h).2 j (by rw [← dlen]; exact hj) (Nat.zero_le _)
theorem line_tells (s : ByteArray) (a : Int) (hs : s.size ≤ 2147483647) : ∃ b, Ev (fun k => laws_line9.f k s a) b ∧ (b = true → s.size ≤ 300 ∧ Asc s ∧ 0 ≤ a ∧ a ≤ s.size) := by
  obtain ⟨b, hb, hq⟩ := ascii_tells s hs
  unfold laws_line9.f
  cases b with
  | false => exact ⟨false, ev_bind hb (ev_ifn (by simp) (Ev.now _)), fun h => by cases h⟩
  | true =>
    by_cases h0 : a ≥ 0
    · exact ⟨decide (a ≤ (s.size : Int)), ev_bind hb (ev_ifp rfl (ev_ifp h0 (Ev.now _))), fun h => ⟨(hq rfl).1, (hq rfl).2, h0, of_decide_eq_true h⟩⟩
    · exact ⟨false, ev_bind hb (ev_ifp rfl (ev_ifn h0 (Ev.now _))), fun h => by cases h⟩
theorem short_tells (s : ByteArray) (a : Int) (hs : s.size ≤ 2147483647) : ∃ b, Ev (fun k => laws_short9.f k s a) b ∧ (b = true → s.size ≤ 100 ∧ Asc s ∧ 0 ≤ a ∧ a ≤ s.size) := by
  obtain ⟨b, hb, hq⟩ := line_tells s a hs
  unfold laws_short9.f
  cases b with
  | false => exact ⟨false, ev_bind hb (ev_ifn (by simp) (Ev.now _)), fun h => by cases h⟩
  | true => exact ⟨decide ((s.size : Int) ≤ 100), ev_bind hb (ev_ifp rfl (Ev.now _)), fun h => ⟨by have := of_decide_eq_true h; omega, (hq rfl).2⟩⟩

theorem prevW_le (l : List Int) : ∀ i, prevW l i ≤ i
  | 0 => Nat.le_refl _
  | i + 1 => by
    unfold prevW
    split
    · exact Nat.le_refl _
    · have := prevW_le l i; omega
theorem nextW_le (l : List Int) : ∀ d i, i + d ≤ l.length + 1 → nextW l d i ≤ l.length
  | 0, i, h => Nat.le_refl _
  | d + 1, i, h => by
    unfold nextW
    split
    · omega
    · exact nextW_le l d (i + 1) (by omega)
/-- A step that moves. -/
def Moves (k : Key5) : Prop := (k.op = 2 ∨ k.op = 3 ∨ k.op = 4 ∨ k.op = 5 ∨ k.op = 10 ∨ k.op = 11 ∨ k.op = 19) ∧ k.text = ⟨#[]⟩ ∧ 0 ≤ k.n ∧ k.n ≤ 1114111 ∧ k.flag = false
theorem kmove_tells (l : List Int) (i : Nat) (n : Int) (b : Bool) (hi : i ≤ l.length) : ∃ j, (kmove ⟨l, i, []⟩ n false b).1 = ⟨l, j, []⟩ ∧ j ≤ l.length := by
  unfold kmove
  cases b
  · cases h : findF l n (l.length - (i + 1)) (i + 1) with
    | none => exact ⟨i, by simp [h], hi⟩
    | some j => exact ⟨j, by simp [h], by have := findF_lt _ _ _ _ _ h; omega⟩
  · cases h : findB l n i with
    | none => exact ⟨i, by simp [h], hi⟩
    | some j => exact ⟨j, by simp [h], by have := findB_lt _ _ _ _ h; omega⟩
theorem moves_step (l : List Int) (i : Nat) (k : Key5) (hl : l.length ≤ 100) (hi : i ≤ l.length) (hk : Moves k) : ∃ j x, step5 ⟨l, i, []⟩ k = some (⟨l, j, []⟩, x) ∧ j ≤ l.length := by
  obtain ⟨op, t, n, f, b⟩ := k
  obtain ⟨hop, ht, h0, h1, hf⟩ := hk
  dsimp only at *
  subst ht
  subst hf
  have hok : KOk ⟨l, i, []⟩ ⟨#[]⟩ n := ⟨by unfold KS.ok; simp; omega, by decide, h0, h1⟩
  rcases hop with rfl | rfl | rfl | rfl | rfl | rfl | rfl
  · refine ⟨if i = l.length then i else i + 1, -1, step_2 hok, ?_⟩
    split <;> omega
  · exact ⟨i - 1, -1, step_3 hok, by omega⟩
  · exact ⟨0, -1, step_4 hok, by omega⟩
  · exact ⟨l.length, -1, step_5 hok, Nat.le_refl _⟩
  · exact ⟨_, _, step_10 hok, by have := prevW_le l (i - 1); dsimp only; omega⟩
  · exact ⟨_, _, step_11 hok, by dsimp only; exact nextW_le l _ _ (by omega)⟩
  · obtain ⟨j, hj, hle⟩ := kmove_tells l i n b hi
    exact ⟨j, if (kmove ⟨l, i, []⟩ n false b).2 = 1 then 1 else 0, by rw [step_19 hok, hj], hle⟩
theorem moves_run (l : List Int) (hl : l.length ≤ 100) : ∀ (ks : List Key5) (i : Nat), i ≤ l.length → (∀ k ∈ ks, Moves k) → ∃ j ts, krun ⟨l, i, []⟩ ks = some (⟨l, j, []⟩, ts) ∧ j ≤ l.length
  | [], i, hi, _ => ⟨i, [], rfl, hi⟩
  | k :: ks, i, hi, h => by
    obtain ⟨j, x, h1, h2⟩ := moves_step l i k hl hi (h k (by simp))
    obtain ⟨j', ts, h3, h4⟩ := moves_run l hl ks j h2 (fun k hk => h k (by simp [hk]))
    exact ⟨j', x :: ts, krun_cons h1 h3, h4⟩

theorem op_tells (y : Int) (h0 : 0 ≤ y) (h1 : y < 8) : rd [2, 3, 4, 5, 10, 11, 19, 19] y = 2 ∨ rd [2, 3, 4, 5, 10, 11, 19, 19] y = 3 ∨ rd [2, 3, 4, 5, 10, 11, 19, 19] y = 4 ∨ rd [2, 3, 4, 5, 10, 11, 19, 19] y = 5 ∨ rd [2, 3, 4, 5, 10, 11, 19, 19] y = 10 ∨ rd [2, 3, 4, 5, 10, 11, 19, 19] y = 11 ∨ rd [2, 3, 4, 5, 10, 11, 19, 19] y = 19 := by
  have : y = 0 ∨ y = 1 ∨ y = 2 ∨ y = 3 ∨ y = 4 ∨ y = 5 ∨ y = 6 ∨ y = 7 := by omega
  rcases this with e | e | e | e | e | e | e | e <;> rw [e] <;> decide
theorem loop_tells (t : ByteArray) (a : Nat) (ls : List Int) (c : Int) (ht : t.size ≤ 100) (hasc : Asc t) (ha : a ≤ t.size) (hn : ls.length ≤ 30) (hg : ∀ x ∈ ls, 0 ≤ x ∧ x ≤ 255) (hc0 : 0 ≤ c) (hc1 : c ≤ 255) (d : Nat) : ∀ (i : Nat) (ks : List S29), i + d = ls.length → ks.length = i → (∀ k ∈ ks, Moves (key_of k)) →
    Ev (fun k => laws_FnMovesKeep.l0 k ls c ks (ls.length : Int) (i : Int) t (a : Int)) true := by
  induction d with
  | zero =>
    intro i ks hi hk hm
    obtain ⟨j, ts, h1, h2⟩ := moves_run (ints t) (by rw [ints_length]; exact ht) (ks.map key_of) a (by rw [ints_length]; exact ha) (fun k hk => by obtain ⟨x, hx, rfl⟩ := List.mem_map.1 hk; exact hm x hx)
    have hf : laws_after9.f t (a : Int) ks = some (t, (j : Int), true) := by
      have := after_tells (by rw [List.length_map]; omega) hasc (by omega) ha h1 (by dsimp only; rw [ints_length]; omega)
      dsimp only at this
      rw [runesBytes_ints hasc] at this
      exact this
    rw [ints_length] at h2
    refine Ev.step (fun k => by rw [laws_FnMovesKeep.l0, hf]) (ev_ifn (by omega) ?_)
    simp only [Option.bind_some]
    exact ev_ifp trivial (ev_ifp trivial (ev_ifp (by omega) (ev_some (decide_eq_true (by omega)))))
  | succ d ih =>
    intro i ks hi hk hm
    have hlt : i < ls.length := by omega
    have hx := hg _ (List.getElem_mem hlt)
    have er := rd_nat ls i hlt
    generalize ls[i] = x at *
    have ht8 : Int.tmod x 8 = x % 8 := Int.tmod_eq_emod_of_nonneg hx.1
    have ht2 : Int.tmod x 2 = x % 2 := Int.tmod_eq_emod_of_nonneg hx.1
    have hm0 : 0 ≤ x % 8 := by omega
    have hm8 : x % 8 < 8 := by omega
    refine Ev.step (fun k => by rw [laws_FnMovesKeep.l0, er, ht8, ht2, w64 (x := (i : Int) + 1) (by omega) (by omega), w64 (x := c) (by omega) (by omega)]) (ev_ifp (by omega) ?_)
    simp only [Option.bind_some]
    refine ev_ifp (by omega) (ev_ifp (by omega) (ev_ifp hm0 (ev_ifp (by simpa using hm8) (ev_ifp (by omega) ?_))))
    have := ih (i + 1) (ks ++ [(⟨rd [2, 3, 4, 5, 10, 11, 19, 19] (x % 8), ⟨#[]⟩, c, false, ((x % 2) == 0)⟩ : S29)]) (by omega) (by simp [hk]) (fun k hk => by
      rw [List.mem_append, List.mem_singleton] at hk
      rcases hk with hk | rfl
      · exact hm k hk
      · refine ⟨?_, rfl, hc0, by show c ≤ 1114111; omega, rfl⟩
        exact op_tells _ hm0 hm8)
    rw [show ((i + 1 : Nat) : Int) = (i : Int) + 1 from by omega] at this
    exact this

theorem FnMovesKeep : laws_FnMovesKeep.Pure := by
  intro t a ls c ht ha hln hg hc
  refine Ev.rounds (r := true) ?_
  have hgx : ∀ x ∈ ls, 0 ≤ x ∧ x ≤ 255 := fun x hx => by
    have := hg x hx
    simp only [Lit.wf, Bool.and_eq_true, decide_eq_true_eq] at this
    have e1 : IntKind.u8.min = 0 := rfl
    have e2 : IntKind.u8.max = 255 := rfl
    omega
  have hcx : 0 ≤ c ∧ c ≤ 255 := by
    simp only [Lit.wf, Bool.and_eq_true, decide_eq_true_eq] at hc
    have e1 : IntKind.u8.min = 0 := rfl
    have e2 : IntKind.u8.max = 255 := rfl
    omega
  have j1 : ∀ b : Bool, (b = false → t.size ≤ 100 ∧ Asc t ∧ 0 ≤ a ∧ a ≤ t.size ∧ ls.length ≤ 30) → Ev (fun k => laws_FnMovesKeep.j1 k ls c b t a) true := by
    intro b hb
    refine Ev.step (fun k => by rw [laws_FnMovesKeep.j1]) ?_
    cases b with
    | true => exact ev_ifp rfl (Ev.now _)
    | false =>
      obtain ⟨h1, h2, h3, h4, h5⟩ := hb rfl
      obtain ⟨i, rfl⟩ := Int.eq_ofNat_of_zero_le h3
      exact ev_ifn (by simp) (loop_tells t i ls c h1 h2 (by omega) h5 hgx hcx.1 hcx.2 ls.length 0 [] (by omega) rfl (by simp))
  have j0 : ∀ b : Bool, (b = false → t.size ≤ 2147483647) → Ev (fun k => laws_FnMovesKeep.j0 k ls c b t a) true := by
    intro b hb
    refine Ev.step (fun k => by rw [laws_FnMovesKeep.j0]) ?_
    cases b with
    | true => exact ev_ifp rfl (Ev.now _)
    | false =>
      refine ev_ifn (by simp) ?_
      obtain ⟨b2, hb2, hq⟩ := short_tells t a (hb rfl)
      refine ev_bind hb2 ?_
      cases b2 with
      | false => exact ev_ifn (by simp) (j1 true (by simp))
      | true =>
        obtain ⟨h1, h2, h3, h4⟩ := hq rfl
        refine ev_ifp rfl ?_
        by_cases g1 : (ls.length : Int) > 30
        · exact ev_ifp g1 (j1 true (by simp))
        refine ev_ifn g1 ?_
        by_cases g2 : c = 0
        · exact ev_ifp g2 (j1 true (by simp))
        exact ev_ifn g2 (j1 _ (fun _ => ⟨h1, h2, h3, h4, by omega⟩))
  unfold laws_FnMovesKeep.f
  by_cases hz : (t.size : Int) > 2147483647
  · have e : laws_zzFits11.f t a = some false := if_pos hz
    simp only [e, Option.bind_some]
    exact ev_ifn (by simp) (j0 true (by simp))
  have e : laws_zzFits11.f t a = some true := if_neg hz
  simp only [e, Option.bind_some]
  exact ev_ifp trivial (j0 _ (fun _ => by omega))
end Go.Proofs.YtdinikcfhpfojaaDoor.Pure
