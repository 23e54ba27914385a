/- Older texts and newer ones: the pure statement behind the law FnOlderNewer; no condition. -/
import Derived.Test.YthbdaoapjnofkaaQPFnOlderNewerx2
namespace Go.Proofs.Ythbdaoapjnofkaa.Pure
open Go.RowKit Go.Proofs.Ythbdaoapjnofkaa.R Go.Proofs.Ythbdaoapjnofkaa.X Go.Proofs.Ythbdaoapjnofkaa.PFnOlderNewer Go.Proofs.Ythbdaoapjnofkaa.H Go.Proofs.YthbdaoapjnofkaaW.PrintWords Go.Proofs.YthbdaoapjnofkaaW.PrintLast
set_option linter.unusedVariables false
theorem ascii_loop (s : ByteArray) (hs : s.size ≤ 4611686018427387904) (d : Nat) : ∀ i : Nat, i + d = s.size →
    ∃ b, Ev (fun k => spec_ASCII.l0 k s (i : Int)) b ∧ (b = true → s.size ≤ 1000 ∧ ∀ j (hj : j < s.size), i ≤ j → (s.data.toList[j]'(by rw [dlen]; exact hj)).toNat < 128) := by
  induction d with
  | zero =>
    intro i hi
    exact ⟨decide ((s.size : Int) ≤ 1000), Ev.step (fun k => by rw [spec_ASCII.l0]) (ev_ifn (by omega) (Ev.now _)), fun h => ⟨by have := of_decide_eq_true h; omega, fun j hj h => by omega⟩⟩
  | succ d ih =>
    intro i hi
    obtain ⟨b, hb, hq⟩ := ih (i + 1) (by omega)
    rw [show ((i + 1 : Nat) : Int) = (i : Int) + 1 from by omega] at hb
    have e1 := bt_nat s i (by omega)
    by_cases h : (128 : Int) ≤ bt s (i : Int)
    · exact ⟨false, Ev.step (fun k => by rw [spec_ASCII.l0]) (ev_ifp (by omega) (ev_ifp (by omega) (ev_ifp h (Ev.now _)))), fun h => by cases h⟩
    · refine ⟨b, Ev.step (fun k => by rw [spec_ASCII.l0, w64 (x := (i : Int) + 1) (by omega) (by omega)]) (ev_ifp (by omega) (ev_ifp (by omega) (ev_ifn h hb))), fun hbt => ⟨(hq hbt).1, fun j hj hij => ?_⟩⟩
      rcases Nat.eq_or_lt_of_le hij with rfl | hlt
      · omega
      · exact (hq hbt).2 j hj hlt
theorem rd_at (L : List ByteArray) (i : Nat) (h : i < L.length) : rdOf ByteArray.empty L (i : Int) = L[i] := by
  unfold rdOf
  rw [Int.toNat_natCast, List.getD_eq_getElem?_getD, List.getElem?_eq_getElem h]
  rfl
theorem ascii_tells (s : ByteArray) (hs : s.size ≤ 4611686018427387904) : ∃ b, Ev (fun k => spec_ASCII.f k s) b ∧ (b = true → s.size ≤ 1000 ∧ Asc s) := by
  obtain ⟨b, hb, hq⟩ := ascii_loop s hs s.size 0 (by omega)
  refine ⟨b, hb, fun h => ⟨(hq h).1, fun x hx => ?_⟩⟩
  obtain ⟨j, hj, rfl⟩ := List.getElem_of_mem hx
  exact (hq h).2 j (by rw [← dlen]; exact hj) (Nat.zero_le _)
theorem fits_tells (L : List ByteArray) : ∃ b, Ev (fun k => laws_zzFits1.f k L) b ∧ (b = true → ∀ x ∈ L, x.size ≤ 4611686018427387904) := by
  unfold laws_zzFits1.f
  by_cases hl : (L.length : Int) > 2147483647
  · exact ⟨false, ev_ifp hl (Ev.now _), fun h => by cases h⟩
  · have h : ∀ d i : Nat, i + d = L.length → ∃ b, Ev (fun k => laws_zzFits1.l0 k L (L.length : Int) (i : Int)) b ∧ (b = true → ∀ j (hj : j < L.length), i ≤ j → L[j].size ≤ 4611686018427387904) := by
      intro d
      induction d with
      | zero => intro i hi; exact ⟨true, Ev.step (fun k => by rw [laws_zzFits1.l0]) (ev_ifn (by omega) (Ev.now _)), fun _ j hj h => by omega⟩
      | succ d ih =>
        intro i hi
        obtain ⟨b, hb, hq⟩ := ih (i + 1) (by omega)
        rw [show ((i + 1 : Nat) : Int) = (i : Int) + 1 from by omega] at hb
        have hr := rd_at L i (by omega)
        by_cases h2 : ((rdOf ByteArray.empty L (i : Int)).size : Int) > 2147483647
        · exact ⟨false, Ev.step (fun k => by rw [laws_zzFits1.l0]) (ev_ifp (by omega) (ev_ifp (by omega) (ev_ifp (by omega) (ev_ifp h2 (Ev.now _))))), fun h => by cases h⟩
        · refine ⟨b, Ev.step (fun k => by rw [laws_zzFits1.l0, w64 (x := (i : Int) + 1) (by omega) (by omega)]) (ev_ifp (by omega) (ev_ifp (by omega) (ev_ifp (by omega) (ev_ifn h2 hb)))), fun hbt j hj hij => ?_⟩
          rcases Nat.eq_or_lt_of_le hij with rfl | hlt
          · rw [hr] at h2; omega
          · exact hq hbt j hj hlt
    obtain ⟨b, hb, hq⟩ := h L.length 0 (by omega)
    refine ⟨b, ev_ifn hl hb, fun hbt x hx => ?_⟩
    obtain ⟨j, hj, rfl⟩ := List.getElem_of_mem hx
    exact hq hbt j hj (Nat.zero_le _)
/-- Turns, and the history behind them. -/
def turnsS (h : Hst) : List Tn → Option (Hst × List ByteArray × List Bool)
  | [] => some (h, [], [])
  | k :: l => (turn1 h k.op k.text).bind fun p => (turnsS p.1 l).bind fun q => some (q.1, p.2.1 :: q.2.1, p.2.2 :: q.2.2)
theorem turns_app {b : List Tn} {h' : Hst} {t2 : List ByteArray} {f2 : List Bool} (hb : turns h' b = some (t2, f2)) : ∀ (a : List Tn) (h : Hst) (t1 : List ByteArray) (f1 : List Bool), turnsS h a = some (h', t1, f1) → turns h (a ++ b) = some (t1 ++ t2, f1 ++ f2) := by
  intro a
  induction a with
  | nil =>
    intro h t1 f1 ha
    have ha := Option.some.inj ha
    simp only [Prod.mk.injEq] at ha
    obtain ⟨rfl, rfl, rfl⟩ := ha
    exact hb
  | cons k l ih =>
    intro h t1 f1 ha
    obtain ⟨p, hp, ha⟩ := Option.bind_eq_some_iff.1 ha
    obtain ⟨q, hq, ha⟩ := Option.bind_eq_some_iff.1 ha
    have ha := Option.some.inj ha
    obtain ⟨q1, q2, q3⟩ := q
    simp only [Prod.mk.injEq] at ha
    obtain ⟨rfl, rfl, rfl⟩ := ha
    have := ih p.1 q2 q3 hq
    show (turn1 h k.op k.text).bind _ = _
    rw [hp, Option.bind_some]
    show (turns p.1 (l ++ b)).bind _ = _
    rw [this]
    rfl
theorem turnsS_app {b : List Tn} {h' h'' : Hst} {t2 : List ByteArray} {f2 : List Bool} (hb : turnsS h' b = some (h'', t2, f2)) : ∀ (a : List Tn) (h : Hst) (t1 : List ByteArray) (f1 : List Bool), turnsS h a = some (h', t1, f1) → turnsS h (a ++ b) = some (h'', t1 ++ t2, f1 ++ f2) := by
  intro a
  induction a with
  | nil =>
    intro h t1 f1 ha
    have ha := Option.some.inj ha
    simp only [Prod.mk.injEq] at ha
    obtain ⟨rfl, rfl, rfl⟩ := ha
    exact hb
  | cons k l ih =>
    intro h t1 f1 ha
    obtain ⟨p, hp, ha⟩ := Option.bind_eq_some_iff.1 ha
    obtain ⟨q, hq, ha⟩ := Option.bind_eq_some_iff.1 ha
    have ha := Option.some.inj ha
    obtain ⟨q1, q2, q3⟩ := q
    simp only [Prod.mk.injEq] at ha
    obtain ⟨rfl, rfl, rfl⟩ := ha
    have := ih p.1 q2 q3 hq
    show (turn1 h k.op k.text).bind _ = _
    rw [hp, Option.bind_some]
    show (turnsS p.1 (l ++ b)).bind _ = _
    rw [this]
    rfl
/-- A history that was just cleared. -/
def fresh (hl : List ByteArray) : Hst := ⟨hl, hl ++ [⟨#[]⟩], hl.length⟩
theorem adds : ∀ (A hl : List ByteArray), hl.length + A.length ≤ 900 → turnsS (fresh hl) (A.map fun x => (⟨1, x⟩ : Tn)) = some (fresh (hl ++ A), List.replicate A.length ⟨#[]⟩, List.replicate A.length false) := by
  intro A
  induction A with
  | nil => intro hl _; simp [turnsS]
  | cons x A ih =>
    intro hl hn
    simp only [List.length_cons] at hn
    have e : turn1 (fresh hl) 1 x = some (fresh (hl ++ [x]), ⟨#[]⟩, false) := by
      unfold turn1
      rw [if_pos ⟨by show hl.length ≤ 900; omega, by show hl.length < (hl ++ [_]).length; simp, by show (hl ++ [_]).length ≤ 1000; simp; omega⟩, if_pos rfl]
      rfl
    show (turn1 (fresh hl) 1 x).bind _ = _
    rw [e, Option.bind_some]
    show (turnsS (fresh (hl ++ [x])) (A.map _)).bind _ = _
    rw [ih (hl ++ [x]) (by simp; omega), Option.bind_some, List.append_assoc]
    rfl
theorem clear_ (hl : List ByteArray) (hn : hl.length ≤ 900) (x : ByteArray) : turn1 (fresh hl) 4 x = some (fresh hl, ⟨#[]⟩, false) := by
  unfold turn1
  rw [if_pos ⟨by show hl.length ≤ 900; omega, by show hl.length < (hl ++ [_]).length; simp, by show (hl ++ [_]).length ≤ 1000; simp; omega⟩, if_neg (by decide), if_pos rfl]
  rfl
/-- Older texts from place j on, and newer ones from place i on: what is given, and what is told. -/
def O (E : List ByteArray) : Nat → List Tn
  | 0 => []
  | j + 1 => ⟨2, E.getD (j + 1) ⟨#[]⟩⟩ :: O E j
def OA (E : List ByteArray) : Nat → List ByteArray
  | 0 => []
  | j + 1 => E.getD j ⟨#[]⟩ :: OA E j
def Nw (E : List ByteArray) (i : Nat) : Nat → List Tn
  | 0 => []
  | d + 1 => ⟨3, E.getD i ⟨#[]⟩⟩ :: Nw E (i + 1) d
def NA (E : List ByteArray) (i : Nat) : Nat → List ByteArray
  | 0 => []
  | d + 1 => E.getD (i + 1) ⟨#[]⟩ :: NA E (i + 1) d
theorem OA_len (E : List ByteArray) : ∀ j, (OA E j).length = j
  | 0 => rfl
  | j + 1 => by simp [OA, OA_len E j]
theorem NA_len (E : List ByteArray) : ∀ d i, (NA E i d).length = d
  | 0, _ => rfl
  | d + 1, i => by simp [NA, NA_len E d]
theorem OA_at (E : List ByteArray) : ∀ j t, t < j → (OA E j)[t]? = some (E.getD (j - 1 - t) ⟨#[]⟩)
  | 0, _, h => absurd h (Nat.not_lt_zero _)
  | j + 1, 0, _ => rfl
  | j + 1, t + 1, h => by
    show (OA E j)[t]? = _
    rw [OA_at E j t (by omega), show j + 1 - 1 - (t + 1) = j - 1 - t by omega]
theorem NA_at (E : List ByteArray) : ∀ d i t, t < d → (NA E i d)[t]? = some (E.getD (i + 1 + t) ⟨#[]⟩)
  | 0, _, _, h => absurd h (Nat.not_lt_zero _)
  | d + 1, i, 0, _ => rfl
  | d + 1, i, t + 1, h => by
    show (NA E (i + 1) d)[t]? = _
    rw [NA_at E d (i + 1) t (by omega), show i + 1 + 1 + t = i + 1 + (t + 1) by omega]
section
variable {L E : List ByteArray}
theorem set_same (E : List ByteArray) (j : Nat) : E.set j (E.getD j ⟨#[]⟩) = E := by
  apply List.ext_getElem?
  intro i
  rw [List.getElem?_set]
  by_cases h : j = i
  · subst h
    rw [if_pos rfl, List.getD_eq_getElem?_getD]
    by_cases h2 : j < E.length
    · rw [if_pos h2, List.getElem?_eq_getElem h2]; rfl
    · rw [if_neg h2, List.getElem?_eq_none (by omega)]
  · rw [if_neg h]
theorem get_ok (hE : ∀ x ∈ E, Asc x ∧ x.size ≤ 1000) {j : Nat} (h : j < E.length) : E[j]? = some (E.getD j ⟨#[]⟩) ∧ Asc (E.getD j ⟨#[]⟩) ∧ (E.getD j ⟨#[]⟩).size ≤ 1000000 := by
  rw [List.getD_eq_getElem?_getD, List.getElem?_eq_getElem h, Option.getD_some]
  have := hE _ (List.getElem_mem h)
  exact ⟨rfl, this.1, by omega⟩
theorem older1 (hL : L.length ≤ 900) (tl : List ByteArray) (hE : ∀ x ∈ E, Asc x ∧ x.size ≤ 1000) (hEl : E.length ≤ 1000) (j : Nat) (htl : tl.length = E.length) (hj : j + 1 < E.length) (x : ByteArray) (hset : tl.set (j + 1) x = E) : turn1 ⟨L, tl, j + 1⟩ 2 x = some (⟨L, E, j⟩, E.getD j ⟨#[]⟩, true) := by
  obtain ⟨g1, g2, g3⟩ := get_ok hE (j := j) (by omega)
  unfold turn1
  rw [if_pos ⟨hL, by show j + 1 < tl.length; omega, by show tl.length ≤ 1000; omega⟩, if_neg (by decide), if_neg (by decide), if_pos rfl, if_neg (by show ¬ (tl.length = 1 ∨ j + 1 = 0); omega)]
  unfold goTo
  have e : tl[j]? = some (E.getD j ⟨#[]⟩) := by rw [← g1, ← hset, List.getElem?_set_ne (by omega)]
  show (match tl[j + 1 - 1]? with | some y => _ | none => _) = _
  rw [show j + 1 - 1 = j by omega, e]
  show (if _ then _ else _) = _
  rw [if_pos ⟨g2, g3⟩, hset]
theorem olds (hL : L.length ≤ 900) (hE : ∀ x ∈ E, Asc x ∧ x.size ≤ 1000) (hEl : E.length ≤ 1000) : ∀ j, j < E.length → turnsS ⟨L, E, j⟩ (O E j) = some (⟨L, E, 0⟩, OA E j, List.replicate j true) := by
  intro j
  induction j with
  | zero => intro _; rfl
  | succ j ih =>
    intro hj
    show (turn1 ⟨L, E, j + 1⟩ 2 (E.getD (j + 1) ⟨#[]⟩)).bind _ = _
    rw [older1 hL E hE hEl j rfl hj _ (set_same E (j + 1)), Option.bind_some]
    show (turnsS ⟨L, E, j⟩ (O E j)).bind _ = _
    rw [ih (by omega)]
    rfl
theorem news (hL : L.length ≤ 900) (hE : ∀ x ∈ E, Asc x ∧ x.size ≤ 1000) (hEl : E.length ≤ 1000) : ∀ d i, i + d + 1 = E.length → turns ⟨L, E, i⟩ (Nw E i d) = some (NA E i d, List.replicate d true) := by
  intro d
  induction d with
  | zero => intro i _; rfl
  | succ d ih =>
    intro i hi
    obtain ⟨g1, g2, g3⟩ := get_ok hE (j := i + 1) (by omega)
    have e : turn1 ⟨L, E, i⟩ 3 (E.getD i ⟨#[]⟩) = some (⟨L, E, i + 1⟩, E.getD (i + 1) ⟨#[]⟩, true) := by
      unfold turn1
      rw [if_pos ⟨hL, by show i < E.length; omega, hEl⟩, if_neg (by decide), if_neg (by decide), if_neg (by decide), if_pos rfl, if_neg (by show ¬ (E.length ≤ i + 1); omega)]
      unfold goTo
      show (match E[i + 1]? with | some y => _ | none => _) = _
      rw [g1]
      show (if _ then _ else _) = _
      rw [if_pos ⟨g2, g3⟩]
      show some ((⟨L, E.set i (E.getD i ⟨#[]⟩), i + 1⟩ : Hst), _, _) = _
      rw [set_same]
    show (turn1 ⟨L, E, i⟩ 3 (E.getD i ⟨#[]⟩)).bind _ = _
    rw [e, Option.bind_some]
    show (turns ⟨L, E, i + 1⟩ (Nw E (i + 1) d)).bind _ = _
    rw [ih (i + 1) (by omega)]
    rfl
end
/-- All the turns of the law. -/
theorem whole (L : List ByteArray) (s : ByteArray) (hn : L.length ≤ 12) (hL : ∀ x ∈ L, Asc x ∧ x.size ≤ 1000) (hs : Asc s ∧ s.size ≤ 1000) :
    ∃ F, turns ⟨[], [⟨#[]⟩], 0⟩ (((L.map fun x => (⟨1, x⟩ : Tn)) ++ [(⟨4, ⟨#[]⟩⟩ : Tn)]) ++ (O (L ++ [s]) L.length ++ Nw (L ++ [s]) 0 L.length)) = some ((List.replicate L.length (⟨#[]⟩ : ByteArray) ++ [(⟨#[]⟩ : ByteArray)]) ++ (OA (L ++ [s]) L.length ++ NA (L ++ [s]) 0 L.length), F) := by
  have hE : ∀ x ∈ L ++ [s], Asc x ∧ x.size ≤ 1000 := by
    intro x hx
    rcases List.mem_append.1 hx with h | h
    · exact hL x h
    · rw [List.mem_singleton] at h; subst h; exact hs
  have hEl : (L ++ [s]).length = L.length + 1 := by simp
  have h1 : turnsS ⟨[], [⟨#[]⟩], 0⟩ ((L.map fun x => (⟨1, x⟩ : Tn)) ++ [(⟨4, ⟨#[]⟩⟩ : Tn)]) = some (fresh L, List.replicate L.length ⟨#[]⟩ ++ [⟨#[]⟩], List.replicate L.length false ++ [false]) := by
    refine turnsS_app (h' := fresh L) ?_ _ _ _ _ ?_
    · show (turn1 (fresh L) 4 ⟨#[]⟩).bind _ = _
      rw [clear_ L (by omega)]
      rfl
    · have := adds L [] (by simp; omega)
      rw [List.nil_append] at this
      exact this
  have h2 : ∃ F, turns (fresh L) (O (L ++ [s]) L.length ++ Nw (L ++ [s]) 0 L.length) = some (OA (L ++ [s]) L.length ++ NA (L ++ [s]) 0 L.length, F) := by
    rcases Nat.eq_zero_or_pos L.length with h0 | h0
    · rw [h0]; exact ⟨[], rfl⟩
    · obtain ⟨j, hj⟩ : ∃ j, L.length = j + 1 := ⟨L.length - 1, by omega⟩
      have a := news (L := L) (by omega) hE (by omega) L.length 0 (by omega)
      have b := olds (L := L) (by omega) hE (by omega) j (by omega)
      have c : turnsS (fresh L) (O (L ++ [s]) L.length) = some (⟨L, L ++ [s], 0⟩, OA (L ++ [s]) L.length, List.replicate L.length true) := by
        have hg : (L ++ [s]).getD L.length ⟨#[]⟩ = s := by rw [List.getD_eq_getElem?_getD, List.getElem?_append_right (Nat.le_refl _)]; simp
        have e := older1 (L := L) (E := L ++ [s]) (by omega) (L ++ [⟨#[]⟩]) hE (by omega) j (by simp) (by omega) s (by rw [← hj]; simp)
        rw [hj] at hg
        have hfr : fresh L = ⟨L, L ++ [⟨#[]⟩], j + 1⟩ := by unfold fresh; rw [hj]
        rw [hj, hfr]
        show (turn1 ⟨L, L ++ [⟨#[]⟩], j + 1⟩ 2 ((L ++ [s]).getD (j + 1) ⟨#[]⟩)).bind _ = _
        rw [hg, e, Option.bind_some]
        show (turnsS ⟨L, L ++ [s], j⟩ (O (L ++ [s]) j)).bind _ = _
        rw [b]
        rfl
      exact ⟨_, turns_app a _ _ _ _ c⟩
  obtain ⟨F, h2⟩ := h2
  exact ⟨_, turns_app h2 _ _ _ _ h1⟩
def sn (x : Tn) : S27 := ⟨x.op, x.text⟩
theorem getD_left (L : List ByteArray) (s : ByteArray) (i : Nat) (h : i < L.length) : (L ++ [s]).getD i ⟨#[]⟩ = L[i] := by
  rw [List.getD_eq_getElem?_getD, List.getElem?_append_left h, List.getElem?_eq_getElem h]; rfl
theorem test_loop (L : List ByteArray) (s : ByteArray) (hn : L.length ≤ 12) (T : List ByteArray) (hT : T = (List.replicate L.length (⟨#[]⟩ : ByteArray) ++ [(⟨#[]⟩ : ByteArray)]) ++ (OA (L ++ [s]) L.length ++ NA (L ++ [s]) 0 L.length)) (d : Nat) : ∀ i : Nat, i + d = L.length → Ev (fun k => laws_FnOlderNewer.l3 k L s T ((L.length + 1 : Nat) : Int) (i : Int)) true := by
  have hTl : T.length = 3 * L.length + 1 := by rw [hT]; simp [OA_len, NA_len]; omega
  induction d with
  | zero => intro i hi; exact Ev.step (fun k => by rw [laws_FnOlderNewer.l3]) (ev_ifn (by omega) (Ev.now _))
  | succ d ih =>
    intro i hi
    have h := ih (i + 1) (by omega)
    rw [show ((i + 1 : Nat) : Int) = (i : Int) + 1 from by omega] at h
    have x1 : rdOf ByteArray.empty T ((L.length + 1 + i : Nat) : Int) = L[L.length - 1 - i] := by
      unfold rdOf
      rw [Int.toNat_natCast, List.getD_eq_getElem?_getD, hT, List.getElem?_append_right (by simp <;> omega), List.getElem?_append_left (by rw [OA_len]; simp <;> omega)]
      rw [show L.length + 1 + i - (List.replicate L.length (⟨#[]⟩ : ByteArray) ++ [(⟨#[]⟩ : ByteArray)]).length = i by simp <;> omega, OA_at _ _ _ (by omega), Option.getD_some, getD_left _ _ _ (by omega)]
    have x2 : rdOf ByteArray.empty T ((2 * L.length + 1 + i : Nat) : Int) = (L ++ [s]).getD (i + 1) ⟨#[]⟩ := by
      unfold rdOf
      rw [Int.toNat_natCast, List.getD_eq_getElem?_getD, hT, List.getElem?_append_right (by simp <;> omega), List.getElem?_append_right (by rw [OA_len]; simp <;> omega), OA_len]
      rw [show 2 * L.length + 1 + i - (List.replicate L.length (⟨#[]⟩ : ByteArray) ++ [(⟨#[]⟩ : ByteArray)]).length - L.length = i by simp <;> omega, NA_at _ _ _ _ (by omega), Option.getD_some, show 0 + 1 + i = i + 1 by omega]
    have x3 : rdOf ByteArray.empty L ((L.length - 1 - i : Nat) : Int) = L[L.length - 1 - i] := rd_at _ _ (by omega)
    have HW := Lib.hid (show wrap64 (((L.length + 1 : Nat) : Int) + (i : Int)) = ((L.length + 1 + i : Nat) : Int) ∧ wrap64 (wrap64 ((L.length : Int) - 1) - (i : Int)) = ((L.length - 1 - i : Nat) : Int) ∧ wrap64 ((i : Int) + 1) = (i : Int) + 1 ∧ wrap64 (wrap64 (((L.length + 1 : Nat) : Int) + (L.length : Int)) + (i : Int)) = ((2 * L.length + 1 + i : Nat) : Int) from by
      rw [w64 (x := ((L.length + 1 : Nat) : Int) + (i : Int)) (by omega) (by omega), w64 (x := (L.length : Int) - 1) (by omega) (by omega), w64 (x := (L.length : Int) - 1 - (i : Int)) (by omega) (by omega), w64 (x := (i : Int) + 1) (by omega) (by omega), w64 (x := ((L.length + 1 : Nat) : Int) + (L.length : Int)) (by omega) (by omega), w64 (x := ((L.length + 1 : Nat) : Int) + (L.length : Int) + (i : Int)) (by omega) (by omega)]
      omega)
    refine Ev.step (fun k => by rw [laws_FnOlderNewer.l3, HW.out.1, HW.out.2.1, HW.out.2.2.1, HW.out.2.2.2]) ?_
    rw [x1, x2, x3]
    refine ev_ifp (by omega) (ev_ifp (by omega) (ev_ifp (by omega) (ev_ifp (by omega) (ev_ifp (by omega) (ev_ifp rfl ?_)))))
    by_cases hl : (i : Int) + 1 < (L.length : Int)
    · refine ev_ifp hl (ev_ifp (by omega) (ev_ifp (by omega) (ev_ifp (by omega) (ev_ifp ?_ h))))
      have := rd_at L (i + 1) (by omega)
      rw [show ((i + 1 : Nat) : Int) = (i : Int) + 1 from by omega] at this
      rw [this, getD_left _ _ _ (by omega)]
    · refine ev_ifn hl (ev_ifp (by omega) (ev_ifp (by omega) (ev_ifp ?_ h)))
      rw [List.getD_eq_getElem?_getD, List.getElem?_append_right (by omega), show i + 1 - L.length = 0 by omega]
      rfl
theorem newer_loop (L : List ByteArray) (s : ByteArray) (hn : L.length ≤ 12) (hL : ∀ x ∈ L, Asc x ∧ x.size ≤ 1000) (hs : Asc s ∧ s.size ≤ 1000) (d : Nat) : ∀ (i : Nat) (X : List S27) (sh : ByteArray), i + d = L.length → (0 < d → sh = (L ++ [s]).getD i ⟨#[]⟩) → X.length = 2 * L.length + 1 + i → X ++ (Nw (L ++ [s]) i d).map sn = (((L.map fun x => (⟨1, x⟩ : Tn)) ++ [(⟨4, ⟨#[]⟩⟩ : Tn)]) ++ (O (L ++ [s]) L.length ++ Nw (L ++ [s]) 0 L.length)).map sn → Ev (fun k => laws_FnOlderNewer.l2 k L s X sh ((i : Int) + 1)) true := by
  induction d with
  | zero =>
    intro i X sh hi hsh hXl hX
    obtain ⟨F, hr⟩ := whole L s hn hL hs
    have hX' : X = (((L.map fun x => (⟨1, x⟩ : Tn)) ++ [(⟨4, ⟨#[]⟩⟩ : Tn)]) ++ (O (L ++ [s]) L.length ++ Nw (L ++ [s]) 0 L.length)).map sn := by rw [← hX]; simp [Nw]
    have hT : impl_Turned.f X = some ((List.replicate L.length (⟨#[]⟩ : ByteArray) ++ [(⟨#[]⟩ : ByteArray)]) ++ (OA (L ++ [s]) L.length ++ NA (L ++ [s]) 0 L.length), F) := by
      unfold impl_Turned.f
      rw [if_pos (by omega), ← hr, hX', List.map_map]
      congr 1
      exact List.map_id _
    have hw := w64 (x := (L.length : Int) + 1) (by omega) (by omega)
    refine Ev.step (fun k => by rw [laws_FnOlderNewer.l2, hw]) (ev_ifn (by omega) ?_)
    refine ev_bind (ev_const hT) ?_
    refine ev_ifp ?_ ?_
    · simp only [List.length_append, List.length_replicate, List.length_cons, List.length_nil, OA_len, NA_len]; omega
    · have := test_loop L s hn _ rfl L.length 0 (by omega)
      rw [show ((L.length + 1 : Nat) : Int) = (L.length : Int) + 1 by omega] at this
      exact this
  | succ d ih =>
    intro i X sh hi hsh hXl hX
    have hsh := hsh (by omega)
    have hX1 : (X ++ [(⟨3, sh⟩ : S27)]) ++ (Nw (L ++ [s]) (i + 1) d).map sn = (((L.map fun x => (⟨1, x⟩ : Tn)) ++ [(⟨4, ⟨#[]⟩⟩ : Tn)]) ++ (O (L ++ [s]) L.length ++ Nw (L ++ [s]) 0 L.length)).map sn := by
      rw [List.append_assoc, ← hX, hsh]; rfl
    refine Ev.step (fun k => by rw [laws_FnOlderNewer.l2, w64 (x := (i : Int) + 1 + 1) (by omega) (by omega)]) ?_
    refine ev_ifp (by omega) ?_
    refine ev_ifp (by omega) ?_
    refine ev_bind (Ev.now _) ?_
    by_cases hl : (i : Int) + 1 < (L.length : Int)
    · have h := ih (i + 1) (X ++ [(⟨3, sh⟩ : S27)]) (rdOf ByteArray.empty L ((i : Int) + 1)) (by omega) (fun _ => by
        have := rd_at L (i + 1) (by omega)
        rw [show ((i + 1 : Nat) : Int) = (i : Int) + 1 from by omega] at this
        rw [this, getD_left _ _ _ (by omega)]) (by simp; omega) hX1
      rw [show ((i + 1 : Nat) : Int) = (i : Int) + 1 from by omega] at h
      exact ev_ifp hl (ev_ifp (by omega) h)
    · have h := ih (i + 1) (X ++ [(⟨3, sh⟩ : S27)]) sh (by omega) (fun h => by omega) (by simp; omega) hX1
      rw [show ((i + 1 : Nat) : Int) = (i : Int) + 1 from by omega] at h
      exact ev_ifn hl h
theorem older_loop (L : List ByteArray) (s : ByteArray) (hn : L.length ≤ 12) (hL : ∀ x ∈ L, Asc x ∧ x.size ≤ 1000) (hs : Asc s ∧ s.size ≤ 1000) : ∀ (j : Nat) (X : List S27), j ≤ L.length → X.length + j = 2 * L.length + 1 → X ++ (O (L ++ [s]) j ++ Nw (L ++ [s]) 0 L.length).map sn = (((L.map fun x => (⟨1, x⟩ : Tn)) ++ [(⟨4, ⟨#[]⟩⟩ : Tn)]) ++ (O (L ++ [s]) L.length ++ Nw (L ++ [s]) 0 L.length)).map sn → Ev (fun k => laws_FnOlderNewer.l1 k L s X ((L ++ [s]).getD j ⟨#[]⟩) ((j : Int) - 1)) true := by
  intro j
  induction j with
  | zero =>
    intro X _ hXl hX
    refine Ev.step (fun k => by rw [laws_FnOlderNewer.l1]) (ev_ifn (by omega) ?_)
    have := newer_loop L s hn hL hs L.length 0 X ((L ++ [s]).getD 0 ⟨#[]⟩) (by omega) (fun _ => rfl) (by omega) hX
    exact this
  | succ j ih =>
    intro X hj hXl hX
    have h := ih (X ++ [(⟨2, (L ++ [s]).getD (j + 1) ⟨#[]⟩⟩ : S27)]) (by omega) (by simp; omega) (by rw [List.append_assoc, ← hX]; rfl)
    have hr := rd_at L j (by omega)
    rw [← getD_left L s j (by omega)] at hr
    rw [show ((j + 1 : Nat) : Int) - 1 = (j : Int) by omega]
    refine Ev.step (fun k => by rw [laws_FnOlderNewer.l1, hr, w64 (x := (j : Int) - 1) (by omega) (by omega)]) ?_
    exact ev_ifp (by omega) (ev_ifp (by omega) (ev_ifp (by omega) (ev_ifp (by omega) h)))
theorem add_loop (L : List ByteArray) (s : ByteArray) (hn : L.length ≤ 12) (hs : Asc s ∧ s.size ≤ 1000) (hz : ∀ x ∈ L, x.size ≤ 4611686018427387904) (d : Nat) : ∀ i : Nat, i + d = L.length → (∀ x ∈ L.take i, Asc x ∧ x.size ≤ 1000) → Ev (fun k => laws_FnOlderNewer.l0 k L s ((L.take i).map fun x => (⟨1, x⟩ : S27)) (i : Int)) true := by
  induction d with
  | zero =>
    intro i hi hL
    rw [List.take_of_length_le (by omega)] at hL ⊢
    have h := older_loop L s hn hL hs L.length ((L.map fun x => (⟨1, x⟩ : S27)) ++ [(⟨4, ⟨#[]⟩⟩ : S27)]) (Nat.le_refl _) (by simp; omega) (by simp [sn, Function.comp_def])
    have hg : (L ++ [s]).getD L.length ⟨#[]⟩ = s := by rw [List.getD_eq_getElem?_getD, List.getElem?_append_right (Nat.le_refl _)]; simp
    rw [hg] at h
    refine Ev.step (fun k => by rw [laws_FnOlderNewer.l0, w64 (x := (L.length : Int) - 1) (by omega) (by omega)]) ?_
    refine ev_ifn (by omega) ?_
    exact ev_ifp (by simp; omega) h
  | succ d ih =>
    intro i hi hL
    have hlt : i < L.length := by omega
    obtain ⟨b, hb, hq⟩ := ascii_tells L[i] (hz _ (List.getElem_mem hlt))
    have hr := rd_at L i hlt
    refine Ev.step (fun k => by rw [laws_FnOlderNewer.l0, hr, w64 (x := (i : Int) + 1) (by omega) (by omega)]) (ev_ifp (by omega) (ev_ifp (by omega) (ev_bind hb ?_)))
    cases b with
    | false => exact ev_ifn (by simp) (Ev.now _)
    | true =>
      obtain ⟨q1, q2⟩ := hq rfl
      have h := ih (i + 1) (by omega) (fun x hx => by
        rw [List.take_succ_eq_append_getElem hlt] at hx
        rcases List.mem_append.1 hx with h1 | h1
        · exact hL x h1
        · rw [List.mem_singleton] at h1; subst h1; exact ⟨q2, q1⟩)
      rw [List.take_succ_eq_append_getElem hlt, List.map_append, show ((i + 1 : Nat) : Int) = (i : Int) + 1 from by omega] at h
      exact ev_ifp rfl (ev_ifp (by rw [List.length_map, List.length_take]; omega) h)
theorem FnOlderNewer : laws_FnOlderNewer.Pure := by
  intro L s hl hz hs
  refine Ev.rounds (r := true) ?_
  unfold laws_FnOlderNewer.f
  obtain ⟨t, ht, hfit⟩ := fits_tells L
  refine ev_bind ht ?_
  have far : Ev (fun k => laws_FnOlderNewer.j0 k L s true) true := Ev.step (fun k => by rw [laws_FnOlderNewer.j0]) (ev_ifp rfl (Ev.now _))
  have far1 : Ev (fun k => laws_FnOlderNewer.j1 k L s true) true := Ev.step (fun k => by rw [laws_FnOlderNewer.j1]) (ev_ifp rfl (Ev.now _))
  cases t with
  | false => exact ev_ifn (by simp) far
  | true =>
    refine ev_ifp rfl ?_
    by_cases h : (s.size : Int) > 2147483647
    · rw [decide_eq_true h]; exact far
    · rw [decide_eq_false h]
      refine Ev.step (fun k => by rw [laws_FnOlderNewer.j0]) (ev_ifn Bool.false_ne_true ?_)
      by_cases h8 : (L.length : Int) > 12
      · exact ev_ifp h8 far1
      · obtain ⟨b, hb, hq⟩ := ascii_tells s (by omega)
        refine ev_ifn h8 (ev_bind hb ?_)
        cases b with
        | false => exact far1
        | true =>
          refine Ev.step (fun k => by rw [laws_FnOlderNewer.j1]) (ev_ifn (by simp) ?_)
          have hq2 := hq rfl
          exact add_loop L s (by omega) ⟨hq2.2, hq2.1⟩ (hfit rfl) L.length 0 (by omega) (fun x hx => by simp at hx)
end Go.Proofs.Ythbdaoapjnofkaa.Pure
