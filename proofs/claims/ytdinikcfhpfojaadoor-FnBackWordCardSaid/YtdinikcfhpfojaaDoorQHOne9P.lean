/- Whether a step over words does what the reference does (laws.one9, for the steps 10, 11 and 12): it does, for all lines; the contract by which the laws take it. -/
import Derived.Test.YtdinikcfhpfojaaDoorQHOne9
import Derived.Test.YtdinikcfhpfojaaDoorQHSteps
namespace Go.Proofs.YtdinikcfhpfojaaDoor.H
open Go.RowKit Go.Proofs.YtdinikcfhpfojaaDoorW.PrintWords Go.Proofs.YtdinikcfhpfojaaDoorW.PrintLast Go.Proofs.YtdinikcfhpfojaaDoor.R Go.Proofs.YtdinikcfhpfojaaDoor.X Go.Proofs.YtdinikcfhpfojaaDoor.PDo
set_option linter.unusedVariables false
set_option linter.unusedSimpArgs false
theorem word_tells (c : Int) : spec_IsWordSign.f c = some (wsign c) := by
  unfold spec_IsWordSign.f wsign
  by_cases h1 : 97 ≤ c <;> by_cases h2 : c ≤ 122 <;> by_cases h3 : 65 ≤ c <;> by_cases h4 : c ≤ 90 <;> by_cases h5 : 48 ≤ c <;> by_cases h6 : c ≤ 57 <;> simp [h1, h2, h3, h4, h5, h6]
theorem rd_D (l : List Int) (i : Nat) : rd l (i : Int) = l.getD i 0 := by unfold rd; rw [Int.toNat_natCast]
section
variable (l kept : List Int) (a : Int) (b o : Bool)
theorem begins_tells (i : Nat) (h : i < l.length) (hl : l.length ≤ 1000) : spec_Editor_begins.f l a kept b o (i : Int) = some (decide (0 < i) && begs l i, a, b, o) := by
  unfold spec_Editor_begins.f begs
  by_cases h0 : (i : Int) > 0
  · rw [if_pos h0, if_pos (by omega), if_pos (by omega), rd_D, word_tells, Option.bind_some, w64 (x := (i : Int) - 1) (by omega) (by omega)]
    rw [show (i : Int) - 1 = ((i - 1 : Nat) : Int) by omega, rd_D, word_tells, Option.bind_some]
    have hd : decide (0 < i) = true := decide_eq_true (by omega)
    cases hw : wsign (l.getD i 0) with
    | false => simp
    | true => simp [hd]; omega
  · rw [if_neg h0]
    have : i = 0 := by omega
    subst this
    simp
theorem before_loop (hl : l.length ≤ 1000) : ∀ i : Nat, i < l.length → Ev (fun k => spec_Editor_before.l0 k (i : Int) l a kept b o) (if prevW l i = 0 then -1 else (prevW l i : Int), a, b, o)
  | 0, h => by
    refine Ev.step (fun k => by rw [spec_Editor_before.l0, show ((0 : Nat) : Int) = 0 from rfl, show spec_Editor_begins.f l a kept b o 0 = some (false, a, b, o) from by simpa using begins_tells l kept a b o 0 h hl, Option.bind_some]) (ev_ifp (by omega) (ev_ifn (by simp) (Ev.step (fun k => by rw [spec_Editor_before.l0]) (ev_ifn (by unfold wrap64; omega) (ev_some ?_)))))
    simp [prevW]
  | i + 1, h => by
    have hb := begins_tells l kept a b o (i + 1) h hl
    have ih := before_loop hl i (by omega)
    rw [show decide (0 < i + 1) = true from decide_eq_true (by omega), Bool.true_and] at hb
    refine Ev.step (fun k => by rw [spec_Editor_before.l0, hb, Option.bind_some]) (ev_ifp (by omega) ?_)
    unfold prevW
    cases hg : begs l (i + 1) with
    | true => exact ev_ifp rfl (ev_some (by simp))
    | false =>
      refine ev_ifn (by simp) ?_
      dsimp only
      rw [w64 (x := ((i + 1 : Nat) : Int) - 1) (by omega) (by omega), show ((i + 1 : Nat) : Int) - 1 = (i : Int) by omega]
      simpa using ih
theorem after_loop (hl : l.length ≤ 1000) : ∀ (d i : Nat), i + d = l.length → 0 < i → Ev (fun k => spec_Editor_after.l0 k (i : Int) l a kept b o) (if nextW l d i = l.length then -1 else (nextW l d i : Int), a, b, o)
  | 0, i, h, _ => by
    refine Ev.step (fun k => by rw [spec_Editor_after.l0]) (ev_ifn (by omega) (ev_some ?_))
    simp [nextW]
  | d + 1, i, h, h0 => by
    have hb := begins_tells l kept a b o i (by omega) hl
    have ih := after_loop hl d (i + 1) (by omega) (by omega)
    rw [show decide (0 < i) = true from decide_eq_true h0, Bool.true_and] at hb
    refine Ev.step (fun k => by rw [spec_Editor_after.l0, hb, Option.bind_some]) (ev_ifp (by omega) ?_)
    unfold nextW
    cases hg : begs l i with
    | true => exact ev_ifp rfl (ev_some (by simp; omega))
    | false =>
      refine ev_ifn (by simp) ?_
      dsimp only
      rw [w64 (x := (i : Int) + 1) (by omega) (by omega), show (i : Int) + 1 = ((i + 1 : Nat) : Int) by omega]
      simpa using ih
theorem ends_tells (x : Nat) (h : x < l.length) (hl : l.length ≤ 1000) : spec_Editor_ends.f l a kept b o (x : Int) = some (decide (x + 1 < l.length) && (wsign (l.getD x 0) && !wsign (l.getD (x + 1) 0)), a, b, o) := by
  unfold spec_Editor_ends.f
  rw [w64 (x := (x : Int) + 1) (by omega) (by omega)]
  by_cases h1 : x + 1 < l.length
  · rw [if_pos (by omega), if_pos (by omega), if_pos (by omega), rd_D, word_tells, Option.bind_some, show (x : Int) + 1 = ((x + 1 : Nat) : Int) by omega, rd_D, word_tells, Option.bind_some]
    cases hw : wsign (l.getD x 0) with
    | false => simp
    | true => simp [h1]; omega
  · rw [if_neg (by omega)]
    simp [h1]
theorem endw_loop (hl : l.length ≤ 1000) : ∀ (d x : Nat), x + d = l.length → Ev (fun k => spec_Editor_endWord.l0 k (l.length : Int) (x : Int) l a kept b o) ((endW l (l.length - (x + 1)) (x + 1) : Int), b, o)
  | 0, x, h => by
    refine Ev.step (fun k => by rw [spec_Editor_endWord.l0]) (ev_ifn (by omega) (ev_some ?_))
    rw [show l.length - (x + 1) = 0 by omega]; rfl
  | d + 1, x, h => by
    have he := ends_tells l kept a b o x (by omega) hl
    have ih := endw_loop hl d (x + 1) (by omega)
    refine Ev.step (fun k => by rw [spec_Editor_endWord.l0, he, Option.bind_some]) (ev_ifp (by omega) ?_)
    by_cases h1 : x + 1 < l.length
    · rw [show decide (x + 1 < l.length) = true from decide_eq_true h1, Bool.true_and, show l.length - (x + 1) = (l.length - (x + 1 + 1)) + 1 by omega, endW]
      cases hg : (wsign (l.getD x 0) && !wsign (l.getD (x + 1) 0)) with
      | true =>
        refine ev_ifp rfl (ev_some ?_)
        simp only [show x + 1 - 1 = x by omega, hg, if_true]
      | false =>
        refine ev_ifn (by simp) ?_
        dsimp only
        rw [w64 (x := (x : Int) + 1) (by omega) (by omega), show (x : Int) + 1 = ((x + 1 : Nat) : Int) by omega]
        simp only [show x + 1 - 1 = x by omega, hg, Bool.false_eq_true, if_false]
        exact ih
    · rw [show decide (x + 1 < l.length) = false from decide_eq_false h1, Bool.false_and]
      refine ev_ifn (by simp) ?_
      dsimp only
      rw [w64 (x := (x : Int) + 1) (by omega) (by omega), show (x : Int) + 1 = ((x + 1 : Nat) : Int) by omega]
      rw [show l.length - (x + 1) = 0 by omega]
      rw [show l.length - (x + 1 + 1) = 0 by omega] at ih
      exact ih
theorem endw_j1 (hl : l.length ≤ 1000) (x : Nat) (h : x ≤ l.length) : Ev (fun k => spec_Editor_endWord.j1 k (l.length : Int) (x : Int) l a kept b o) ((endW l (l.length - (x + 1)) (x + 1) : Int), b, o) :=
  Ev.step (fun k => by rw [spec_Editor_endWord.j1]) (endw_loop l kept a b o hl (l.length - x) x (by omega))
theorem endw_j0 (hl : l.length ≤ 1000) (i : Nat) (h : i < l.length) : Ev (fun k => spec_Editor_endWord.j0 k (l.length : Int) false l (i : Int) kept b o) (if wsign (l.getD i 0) && !wsign (l.getD (i + 1) 0) && decide (i + 1 < l.length) then (endW l (l.length - (i + 2)) (i + 2) : Int) else (endW l (l.length - (i + 1)) (i + 1) : Int), b, o) := by
  have he := ends_tells l kept (i : Int) b o i h hl
  refine Ev.step (fun k => by rw [spec_Editor_endWord.j0, he, Option.bind_some]) (ev_ifn (by simp) ?_)
  have h1 := endw_j1 l kept (i : Int) b o hl i (by omega)
  have h2 := endw_j1 l kept (i : Int) b o hl (i + 1) (by omega)
  have e : (decide (i + 1 < l.length) && (wsign (l.getD i 0) && !wsign (l.getD (i + 1) 0))) = (wsign (l.getD i 0) && !wsign (l.getD (i + 1) 0) && decide (i + 1 < l.length)) := Bool.and_comm _ _
  rw [e]
  cases hg : (wsign (l.getD i 0) && !wsign (l.getD (i + 1) 0) && decide (i + 1 < l.length)) with
  | true =>
    refine ev_ifp rfl ?_
    dsimp only
    rw [w64 (x := (i : Int) + 1) (by omega) (by omega), show (i : Int) + 1 = ((i + 1 : Nat) : Int) by omega]
    simpa using h2
  | false =>
    refine ev_ifn (by simp) ?_
    simpa using h1
end
/-- What a step over words tells, and where the cursor is then. -/
def Tells (l : List Int) (n : Nat) (op want at1 : Int) (o : Bool) : Prop :=
  Ev (fun k => spec_Editor_Do.f k l (n : Int) [] false false op ⟨#[]⟩ 0 false false) (want, at1, false, o) ∧ (o = false → ∃ s : KS, s.buf = l ∧ (s.idx : Int) = at1 ∧ ∀ K : KS, K = ⟨l, n, []⟩ → step5 K ⟨op, ⟨#[]⟩, 0, false, false⟩ = some (s, want))
theorem kok (l : List Int) (n : Nat) (hl : l.length ≤ 1000) : KOk ⟨l, n, []⟩ ⟨#[]⟩ 0 := ⟨by unfold KS.ok; simp; omega, by decide, by omega, by omega⟩
theorem do_10 (l : List Int) (n : Nat) (hl : l.length ≤ 1000) (hn : n ≤ l.length) : ∃ want at1, Tells l n 10 want at1 false := by
  refine ⟨if 0 < n then 1 else 0, (prevW l (n - 1) : Int), ?_, fun _ => ⟨⟨l, prevW l (n - 1), []⟩, rfl, rfl, fun K hK => by rw [hK, step_10 (kok l n hl)]⟩⟩
  unfold spec_Editor_Do.f
  refine ev_ifn (by simp) (Ev.step (fun k => by rw [spec_Editor_Do.j0]) (ev_ifn (by simp) (ev_ifn (by omega) (ev_ifn (by omega) (ev_ifn (by omega) (ev_ifn (by omega) (ev_ifn (by omega) (ev_ifn (by omega) (ev_ifn (by omega) (ev_ifn (by omega) (ev_ifn (by omega) (ev_ifp rfl ?_))))))))))))
  have hb : Ev (fun k => spec_Editor_before.f k l (n : Int) [] false false (n : Int)) (if prevW l (n - 1) = 0 then -1 else (prevW l (n - 1) : Int), (n : Int), false, false) := by
    unfold spec_Editor_before.f
    rw [w64 (x := (n : Int) - 1) (by omega) (by omega)]
    by_cases h0 : n = 0
    · subst h0
      exact Ev.step (fun k => by rw [spec_Editor_before.l0]) (ev_ifn (by omega) (ev_some (by simp [prevW])))
    · rw [show (n : Int) - 1 = ((n - 1 : Nat) : Int) by omega]
      exact before_loop l [] (n : Int) false false hl (n - 1) (by omega)
  have ht : spec_told.f (decide ((n : Int) > 0)) = some (if 0 < n then 1 else 0) := by
    unfold spec_told.f
    by_cases h0 : 0 < n
    · rw [if_pos (by simpa using h0), if_pos h0]
    · rw [if_neg (by simpa using h0), if_neg h0]
  refine ev_bind hb ?_
  rw [ht]
  refine ev_some ?_
  simp only [Prod.mk.injEq, and_true, true_and]
  unfold mx
  split <;> split <;> omega
theorem do_11 (l : List Int) (n : Nat) (hl : l.length ≤ 1000) (hn : n ≤ l.length) : ∃ want at1, Tells l n 11 want at1 false := by
  refine ⟨-1, (nextW l (l.length - (n + 1)) (n + 1) : Int), ?_, fun _ => ⟨⟨l, nextW l (l.length - (n + 1)) (n + 1), []⟩, rfl, rfl, fun K hK => by rw [hK, step_11 (kok l n hl)]⟩⟩
  unfold spec_Editor_Do.f
  refine ev_ifn (by simp) (Ev.step (fun k => by rw [spec_Editor_Do.j0]) (ev_ifn (by simp) (ev_ifn (by omega) (ev_ifn (by omega) (ev_ifn (by omega) (ev_ifn (by omega) (ev_ifn (by omega) (ev_ifn (by omega) (ev_ifn (by omega) (ev_ifn (by omega) (ev_ifn (by omega) (ev_ifn (by omega) (ev_ifp rfl ?_)))))))))))))
  have hb : Ev (fun k => spec_Editor_after.f k l (n : Int) [] false false (n : Int)) (if nextW l (l.length - (n + 1)) (n + 1) = l.length then -1 else (nextW l (l.length - (n + 1)) (n + 1) : Int), (n : Int), false, false) := by
    unfold spec_Editor_after.f
    rw [w64 (x := (n : Int) + 1) (by omega) (by omega), show (n : Int) + 1 = ((n + 1 : Nat) : Int) by omega]
    by_cases h0 : n = l.length
    · rw [show l.length - (n + 1) = 0 by omega]
      exact Ev.step (fun k => by rw [spec_Editor_after.l0]) (ev_ifn (by omega) (ev_some (by simp [nextW])))
    · exact after_loop l [] (n : Int) false false hl (l.length - (n + 1)) (n + 1) (by omega) (by omega)
  refine ev_bind hb ?_
  by_cases he : nextW l (l.length - (n + 1)) (n + 1) = l.length
  · simp only [he, if_true]
    exact ev_ifp (by omega) (Ev.now _)
  · simp only [he, if_false]
    exact ev_ifn (by omega) (Ev.now _)
theorem do_12 (l : List Int) (n : Nat) (hl : l.length ≤ 1000) (hn : n ≤ l.length) : ∃ want at1 o, Tells l n 12 want at1 o := by
  have hD : ∀ at1 o, Ev (fun k => spec_Editor_endWord.f k l (n : Int) [] false false) (at1, false, o) → Ev (fun k => spec_Editor_Do.f k l (n : Int) [] false false 12 ⟨#[]⟩ 0 false false) (-1, at1, false, o) := by
    intro at1 o h
    unfold spec_Editor_Do.f
    exact ev_ifn (by simp) (Ev.step (fun k => by rw [spec_Editor_Do.j0]; unfold spec_Editor_more.f; rfl) (ev_ifn (by simp) (ev_ifn (by omega) (ev_ifn (by omega) (ev_ifn (by omega) (ev_ifn (by omega) (ev_ifn (by omega) (ev_ifn (by omega) (ev_ifn (by omega) (ev_ifn (by omega) (ev_ifn (by omega) (ev_ifn (by omega) (ev_ifn (by omega) (ev_bind (a := (-1, at1, false, o)) (ev_ifp rfl (ev_bind h (Ev.now _))) (Ev.now _)))))))))))))))
  by_cases hend : n = l.length
  · refine ⟨-1, (n : Int), false, hD _ _ ?_, fun _ => ⟨⟨l, n, []⟩, rfl, rfl, fun K hK => ?_⟩⟩
    · unfold spec_Editor_endWord.f
      exact ev_ifp (by omega) (Ev.now _)
    · rw [hK, step_12 (kok l n hl) (by intro h; dsimp only at h; omega)]
      unfold kendw
      rw [if_pos (by exact hend)]
  · have hlt : n < l.length := by omega
    have hj := endw_j0 l [] false false hl n hlt
    have key : ∀ (hok : wsign (l.getD n 0) = true → n + 1 < l.length), (if wsign (l.getD n 0) && !wsign (l.getD (n + 1) 0) && decide (n + 1 < l.length) then (endW l (l.length - (n + 2)) (n + 2) : Int) else (endW l (l.length - (n + 1)) (n + 1) : Int)) = (endN l n : Int) := by
      intro hok
      unfold endN
      cases hw : wsign (l.getD n 0) with
      | false => simp
      | true =>
        have := hok hw
        cases hv : wsign (l.getD (n + 1) 0) with
        | false => simp [this]
        | true => simp
    have stp : ∀ (hok : wsign (l.getD n 0) = true → n + 1 < l.length) (K : KS), K = ⟨l, n, []⟩ → step5 K ⟨12, ⟨#[]⟩, 0, false, false⟩ = some (⟨l, endN l n, []⟩, -1) := by
      intro hok K hK
      rw [hK, step_12 (kok l n hl) (by intro _ h; exact hok h)]
      unfold kendw
      rw [if_neg (by exact hend)]
    by_cases hlast : n + 1 = l.length
    · cases hw : wsign (l.getD n 0) with
      | true =>
        refine ⟨-1, (n : Int), true, hD _ _ ?_, fun h => by cases h⟩
        unfold spec_Editor_endWord.f
        rw [w64 (x := (l.length : Int) - 1) (by omega) (by omega), rd_D, word_tells, hw]
        simp only [Option.bind_some]
        exact ev_ifn (by omega) (ev_ifp (by omega) (ev_ifp (by omega) (ev_ifp (by omega) (Ev.step (fun k => by rw [spec_Editor_endWord.j0]) (ev_ifp rfl (Ev.now _))))))
      | false =>
        refine ⟨-1, (endN l n : Int), false, hD _ _ ?_, fun _ => ⟨⟨l, endN l n, []⟩, rfl, rfl, stp (by rw [hw]; intro h; cases h)⟩⟩
        rw [key (by rw [hw]; intro h; cases h)] at hj
        unfold spec_Editor_endWord.f
        rw [w64 (x := (l.length : Int) - 1) (by omega) (by omega), rd_D, word_tells, hw]
        simp only [Option.bind_some]
        exact ev_ifn (by omega) (ev_ifp (by omega) (ev_ifp (by omega) (ev_ifp (by omega) hj)))
    · refine ⟨-1, (endN l n : Int), false, hD _ _ ?_, fun _ => ⟨⟨l, endN l n, []⟩, rfl, rfl, stp (by intro _; omega)⟩⟩
      rw [key (by intro _; omega)] at hj
      unfold spec_Editor_endWord.f
      rw [w64 (x := (l.length : Int) - 1) (by omega) (by omega)]
      exact ev_ifn (by omega) (ev_ifn (by omega) hj)
theorem ascii_loop (s : ByteArray) (hs : s.size ≤ 2147483647) (d : Nat) : ∀ i : Nat, i + d = s.size →
    ∃ b, Ev (fun k => laws_ascii9.l0 k s (s.size : Int) (i : Int)) b ∧ (b = true → s.size ≤ 300 ∧ ∀ j (hj : j < s.size), i ≤ j → (s.data.toList[j]'(by rw [dlen]; exact hj)).toNat < 128) := by
  induction d with
  | zero =>
    intro i hi
    exact ⟨decide ((s.size : Int) ≤ 300), Ev.step (fun k => by rw [laws_ascii9.l0]) (ev_ifn (by omega) (Ev.now _)), fun h => ⟨by have := of_decide_eq_true h; omega, fun j hj h => by omega⟩⟩
  | succ d ih =>
    intro i hi
    obtain ⟨b, hb, hq⟩ := ih (i + 1) (by omega)
    rw [show ((i + 1 : Nat) : Int) = (i : Int) + 1 from by omega] at hb
    have e1 := bt_nat s i (by omega)
    by_cases h : (128 : Int) ≤ bt s (i : Int)
    · exact ⟨false, Ev.step (fun k => by rw [laws_ascii9.l0]) (ev_ifp (by omega) (ev_ifp (by omega) (ev_ifp (by omega) (ev_ifp h (Ev.now _))))), fun h => by cases h⟩
    · refine ⟨b, Ev.step (fun k => by rw [laws_ascii9.l0, w64 (x := (i : Int) + 1) (by omega) (by omega)]) (ev_ifp (by omega) (ev_ifp (by omega) (ev_ifp (by omega) (ev_ifn h hb)))), fun hbt => ⟨(hq hbt).1, fun j hj hij => ?_⟩⟩
      rcases Nat.eq_or_lt_of_le hij with rfl | hlt
      · omega
      · exact (hq hbt).2 j hj hlt
theorem line_tells (s : ByteArray) (a : Int) (hs : s.size ≤ 2147483647) : ∃ b, Ev (fun k => laws_line9.f k s a) b ∧ (b = true → s.size ≤ 300 ∧ Asc s ∧ 0 ≤ a ∧ a ≤ s.size) := by
  obtain ⟨b, hb, hq⟩ := ascii_loop s hs s.size 0 (by omega)
  unfold laws_line9.f laws_ascii9.f
  cases b with
  | false => exact ⟨false, ev_bind hb (ev_ifn (by decide) (Ev.now _)), by simp⟩
  | true =>
    have hasc : Asc s := fun x hx => by
      obtain ⟨j, hj, rfl⟩ := List.getElem_of_mem hx
      exact (hq rfl).2 j (by rw [← dlen]; exact hj) (Nat.zero_le _)
    by_cases h0 : a ≥ 0
    · exact ⟨decide (a ≤ (s.size : Int)), ev_bind hb (ev_ifp rfl (ev_ifp h0 (Ev.now _))), fun h => ⟨(hq rfl).1, hasc, h0, of_decide_eq_true h⟩⟩
    · exact ⟨false, ev_bind hb (ev_ifp rfl (ev_ifn h0 (Ev.now _))), by simp⟩
theorem key_tells (op : Int) (h : op = 10 ∨ op = 11 ∨ op = 12 ∨ op = 14) : Ev (fun k => laws_key9.f k op ⟨#[]⟩ 0 false false) true := by
  have hw : spec_Whole.f ⟨#[]⟩ = some true := rfl
  have hr : spec_KeyRight.f op ⟨#[]⟩ 0 false false = some true := by
    unfold spec_KeyRight.f
    rw [if_neg (by omega), if_neg (by omega), if_neg (by decide), hw, Option.bind_some, if_pos rfl, if_neg (by omega), if_neg (by omega)]
  have ha : Ev (fun k => laws_ascii9.f k ⟨#[]⟩) true := Ev.step (f := fun _ => some true) (fun k => by unfold laws_ascii9.f; rw [laws_ascii9.l0]; rfl) (Ev.now _)
  unfold laws_key9.f
  rw [hr]
  simp only [Option.bind_some]
  exact ev_ifn (by omega) (ev_ifp trivial (ev_bind ha (ev_ifp rfl (ev_ifn (by omega) (Ev.now _)))))
theorem one9_tells (t : ByteArray) (a op : Int) (w : World) (ht : t.size ≤ 2147483647) (h : ∀ (l : List Int) (n : Nat), l.length ≤ 1000 → n ≤ l.length → ∃ want at1 o, Tells l n op want at1 o) (hop : op = 10 ∨ op = 11 ∨ op = 12 ∨ op = 14) :
    Calls Tryd.prog 19 #[.agg #[.string t, .int .i64 a], .agg #[.int .i64 op, .string ⟨#[]⟩, .int .i64 0, .bool false, .bool false]] w fun e w' => e = .returned (.bool true) ∧ Below w.heap.size w w' := by
  obtain ⟨b, hb, hq⟩ := line_tells t a ht
  cases b with
  | false =>
    obtain ⟨k, hk⟩ := hb.rounds
    exact one9_off k t a op w hk
  | true =>
    obtain ⟨g0, hasc, g1, g2⟩ := hq rfl
    obtain ⟨n, rfl⟩ := Int.eq_ofNat_of_zero_le g1
    have hr := runesOf_asc hasc
    have hil := ints_length t
    obtain ⟨want, at1, o, hD, hO⟩ := h (ints t) n (by omega) (by omega)
    have hk := key_tells op hop
    obtain ⟨K1, h1⟩ := hb
    obtain ⟨K2, h2⟩ := hk
    obtain ⟨K3, h3⟩ := hD
    refine one9_on (max K1 (max K2 K3)) t (n : Int) op want at1 o w (by omega) (by omega) (by rw [hr, hil]; omega) (h1 _ (by omega)) (h2 _ (by omega)) (by rw [hr]; exact h3 _ (by omega)) (fun ho => ?_)
    obtain ⟨s, hs1, hs2, hs3⟩ := hO ho
    have e20 : step5 ⟨[], 0, []⟩ ⟨20, t, (n : Int), false, false⟩ = some (⟨ints t, n, []⟩, -1) := by
      rw [step_20 ⟨by unfold KS.ok; simp, by omega, by omega, by omega⟩ (by rw [hr, hil]; omega), hr, Int.toNat_natCast]
    show onceF t (n : Int) ⟨op, ⟨#[]⟩, 0, false, false⟩ = _
    unfold onceF
    rw [krun_cons e20 (krun_cons (hs3 _ rfl) (krun_nil s))]
    dsimp only
    rw [if_pos (by rw [hs1]; omega), hs1, hs2, hr]
/-- For steps over words. -/
def laws_one9.f (t : ByteArray) (a op : Int) (text : ByteArray) (n : Int) (flag back : Bool) : Option Bool :=
  if t.size ≤ 2147483647 ∧ (op = 10 ∨ op = 11 ∨ op = 12) ∧ text = ⟨#[]⟩ ∧ n = 0 ∧ flag = false ∧ back = false then some true else none
theorem laws_one9.calls (t : ByteArray) (a op : Int) (text : ByteArray) (n : Int) (flag back r : Bool) (w : World) (h : laws_one9.f t a op text n flag back = some r) :
    Calls Tryd.prog 19 #[.agg #[.string t, .int .i64 a], .agg #[.int .i64 op, .string text, .int .i64 n, .bool flag, .bool back]] w fun e w' => e = .returned (.bool r) ∧ Below w.heap.size w w' := by
  unfold laws_one9.f at h
  by_cases hg : t.size ≤ 2147483647 ∧ (op = 10 ∨ op = 11 ∨ op = 12) ∧ text = ⟨#[]⟩ ∧ n = 0 ∧ flag = false ∧ back = false
  · rw [if_pos hg] at h
    obtain rfl := Option.some.inj h
    obtain ⟨g0, g1, rfl, rfl, rfl, rfl⟩ := hg
    refine one9_tells t a op w g0 (fun l n hl hn => ?_) (by omega)
    rcases g1 with rfl | rfl | rfl
    · obtain ⟨x, y, hx⟩ := do_10 l n hl hn
      exact ⟨x, y, false, hx⟩
    · obtain ⟨x, y, hx⟩ := do_11 l n hl hn
      exact ⟨x, y, false, hx⟩
    · exact do_12 l n hl hn
  · rw [if_neg hg] at h; cases h
end Go.Proofs.YtdinikcfhpfojaaDoor.H
