/- The last place of a text in another one is the first one in both the other way round; both are -1 together: the pure statement behind the law FnIndexBoth; no condition. -/
import Derived.Test.YthkblefeifdhaaaPFnIndexBothx4
import Derived.Test.YthkblefeifdhaaaXPure
namespace Go.Proofs.Ythkblefeifdhaaa.Pure
open Go.RowKit Go.Proofs.Ythkblefeifdhaaa.R Go.Proofs.Ythkblefeifdhaaa.X Go.Proofs.Ythkblefeifdhaaa.PFnIndexBoth Go.Proofs.YthkblefeifdhaaaW.PrintWords Go.Proofs.YthkblefeifdhaaaW.PrintLast

/-- p stands in l at place i -/
def At (l p : List Int) (i : Nat) : Prop := (l.drop i).take p.length = p
instance (l p : List Int) (i : Nat) : Decidable (At l p i) := inferInstanceAs (Decidable ((l.drop i).take p.length = p))
theorem at_le {l p : List Int} {i : Nat} (h : At l p i) (hp : p ≠ []) : i + p.length ≤ l.length := by
  have h1 := congrArg List.length h
  simp at h1
  have : 0 < p.length := List.length_pos_iff.2 hp
  omega
theorem at_iff {l p : List Int} {i : Nat} (h : i + p.length ≤ l.length) : At l p i ↔ ∀ t (ht : t < p.length), l[i + t] = p[t] := by
  constructor
  · intro ha t ht
    have h1 : ((l.drop i).take p.length)[t]? = p[t]? := by rw [ha]
    rw [List.getElem?_take, if_pos ht, List.getElem?_drop, List.getElem?_eq_getElem (by omega), List.getElem?_eq_getElem ht] at h1
    exact Option.some.inj h1
  · intro ha
    apply List.ext_getElem
    · simp; omega
    · intro t h1 h2
      simp
      exact ha t (by simpa using h2)
theorem at_reverse {l p : List Int} {i : Nat} (hp : p ≠ []) : At l.reverse p.reverse i ↔ i + p.length ≤ l.length ∧ At l p (l.length - p.length - i) := by
  constructor
  · intro h
    have hle := at_le h (by simpa using hp)
    simp at hle
    refine ⟨hle, (at_iff (by omega)).2 fun t ht => ?_⟩
    have h1 := (at_iff (l := l.reverse) (p := p.reverse) (i := i) (by simpa using hle)).1 h (p.length - 1 - t) (by simp; omega)
    rw [List.getElem_reverse, List.getElem_reverse] at h1
    have e1 : l.length - 1 - (i + (p.length - 1 - t)) = l.length - p.length - i + t := by omega
    have e2 : p.length - 1 - (p.length - 1 - t) = t := by omega
    simpa [e1, e2] using h1
  · rintro ⟨hle, h⟩
    refine (at_iff (by simpa using hle)).2 fun t ht => ?_
    simp at ht
    have h1 := (at_iff (l := l) (p := p) (i := l.length - p.length - i) (by omega)).1 h (p.length - 1 - t) (by omega)
    rw [List.getElem_reverse, List.getElem_reverse]
    have e1 : l.length - p.length - i + (p.length - 1 - t) = l.length - 1 - (i + t) := by omega
    simpa [e1] using h1

/-- what the first search tells -/
def First (l p : List Int) (i : Nat) (r : Int) : Prop := (r = -1 ∧ ∀ j, i ≤ j → ¬ At l p j) ∨ ∃ n : Nat, r = n ∧ i ≤ n ∧ At l p n ∧ ∀ j, i ≤ j → j < n → ¬ At l p j
def Last (l p : List Int) (i : Nat) (r : Int) : Prop := (r = -1 ∧ ∀ j, j < i → ¬ At l p j) ∨ ∃ n : Nat, r = n ∧ n < i ∧ At l p n ∧ ∀ j, n < j → j < i → ¬ At l p j

theorem equalRune (k : Nat) (a b : Int) : readline_Runes_EqualRune.f k a b false = some (decide (a = b)) := by
  unfold readline_Runes_EqualRune.f
  by_cases h : a = b <;> simp [h]

theorem inner_hit (l p : List Int) (hl : l.length < 4611686018427387904) (i : Nat) (hi : i + p.length ≤ l.length) (ha : At l p i) (d : Nat) : ∀ j : Nat, j + d = p.length →
    Ev (fun k => readline_Runes_IndexAllEx.l1 k l p false (i : Int) true (j : Int)) (i : Int) := by
  induction d with
  | zero =>
    intro j hj
    refine Ev.step (fun k => by rw [readline_Runes_IndexAllEx.l1]) ?_
    exact ev_ifn (by omega) (ev_ifp rfl (Ev.now _))
  | succ d ih =>
    intro j hj
    have hq := (at_iff hi).1 ha j (by omega)
    have e1 : rd l ((i : Int) + j) = rd p (j : Int) := by
      rw [show (i : Int) + j = ((i + j : Nat) : Int) from by omega, rd_nat l _ (by omega), rd_nat p _ (by omega), hq]
    refine Ev.step (fun k => by rw [readline_Runes_IndexAllEx.l1, w64 (x := (i : Int) + j) (by omega) (by omega), w64 (x := (j : Int) + 1) (by omega) (by omega), equalRune, e1]) ?_
    refine ev_ifp (by omega) (ev_ifp (by omega) (ev_ifp (by omega) (ev_ifp (by omega) ?_)))
    simp only [Option.bind_some, decide_true, if_true]
    have := ih (j + 1) (by omega)
    rwa [show ((j + 1 : Nat) : Int) = (j : Int) + 1 from by omega] at this
theorem inner_miss (l p : List Int) (hl : l.length < 4611686018427387904) (i : Nat) (hi : i + p.length ≤ l.length) (r : Int) (hr : Ev (fun k => readline_Runes_IndexAllEx.l0 k l p false ((i : Int) + 1)) r) (d : Nat) : ∀ j : Nat, j + d = p.length →
    (∃ t, ∃ ht : t < p.length, j ≤ t ∧ l[i + t] ≠ p[t]) → Ev (fun k => readline_Runes_IndexAllEx.l1 k l p false (i : Int) true (j : Int)) r := by
  induction d with
  | zero => rintro j hj ⟨t, ht, h1, _⟩; omega
  | succ d ih =>
    rintro j hj ⟨t, ht, h1, h2⟩
    refine Ev.step (fun k => by rw [readline_Runes_IndexAllEx.l1, w64 (x := (i : Int) + j) (by omega) (by omega), w64 (x := (j : Int) + 1) (by omega) (by omega), w64 (x := (i : Int) + 1) (by omega) (by omega), equalRune]) ?_
    refine ev_ifp (by omega) (ev_ifp (by omega) (ev_ifp (by omega) (ev_ifp (by omega) ?_)))
    simp only [Option.bind_some]
    have e1 : rd l ((i : Int) + j) = l[i + j] := by rw [show (i : Int) + j = ((i + j : Nat) : Int) from by omega, rd_nat l _ (by omega)]
    have e2 : rd p (j : Int) = p[j] := rd_nat p _ (by omega)
    rw [e1, e2]
    by_cases hq : l[i + j] = p[j]
    · simp only [hq, decide_true, if_true]
      have hne : t ≠ j := by rintro rfl; exact h2 hq
      have := ih (j + 1) (by omega) ⟨t, ht, by omega, h2⟩
      rwa [show ((j + 1 : Nat) : Int) = (j : Int) + 1 from by omega] at this
    · simp only [hq, decide_false, Bool.false_eq_true, if_false]
      exact hr
theorem first_search (l p : List Int) (hl : l.length < 4611686018427387904) (hp : p ≠ []) (d : Nat) : ∀ i : Nat, i + d = l.length →
    ∃ r, Ev (fun k => readline_Runes_IndexAllEx.l0 k l p false (i : Int)) r ∧ First l p i r := by
  have hpl : 0 < p.length := List.length_pos_iff.2 hp
  induction d with
  | zero =>
    intro i hi
    refine ⟨-1, Ev.step (fun k => by rw [readline_Runes_IndexAllEx.l0]) (ev_ifn (by omega) (Ev.now _)), .inl ⟨rfl, fun j hj ha => ?_⟩⟩
    have := at_le ha hp
    omega
  | succ d ih =>
    intro i hi
    by_cases hle : i + p.length ≤ l.length
    · obtain ⟨r, hr, hf⟩ := ih (i + 1) (by omega)
      rw [show ((i + 1 : Nat) : Int) = (i : Int) + 1 from by omega] at hr
      have step : ∀ r, Ev (fun k => readline_Runes_IndexAllEx.l1 k l p false (i : Int) true 0) r → Ev (fun k => readline_Runes_IndexAllEx.l0 k l p false (i : Int)) r := by
        intro r hr
        refine Ev.step (fun k => by rw [readline_Runes_IndexAllEx.l0]) ?_
        refine ev_ifp (by omega) (ev_ifp (by omega) (ev_ifp (by omega) (ev_ifn ?_ hr)))
        rw [List.length_drop]; omega
      by_cases ha : At l p i
      · exact ⟨i, step _ (inner_hit l p hl i hle ha p.length 0 (by omega)), .inr ⟨i, rfl, Nat.le_refl _, ha, fun j h1 h2 => by omega⟩⟩
      · have hm : ∃ t, ∃ ht : t < p.length, 0 ≤ t ∧ l[i + t] ≠ p[t] := by
          apply Classical.byContradiction
          intro hn
          exact ha ((at_iff hle).2 fun t ht => Classical.byContradiction fun h => hn ⟨t, ht, Nat.zero_le _, h⟩)
        refine ⟨r, step _ (inner_miss l p hl i hle r hr p.length 0 (by omega) hm), ?_⟩
        rcases hf with ⟨rfl, hf⟩ | ⟨n, rfl, h1, h2, h3⟩
        · refine .inl ⟨rfl, fun j hj => ?_⟩
          rcases Nat.eq_or_lt_of_le hj with rfl | h
          · exact ha
          · exact hf j h
        · refine .inr ⟨n, rfl, by omega, h2, fun j hj hn => ?_⟩
          rcases Nat.eq_or_lt_of_le hj with rfl | h
          · exact ha
          · exact h3 j h hn
    · refine ⟨-1, Ev.step (fun k => by rw [readline_Runes_IndexAllEx.l0]) (ev_ifp (by omega) (ev_ifp (by omega) (ev_ifp (by omega) (ev_ifp ?_ (Ev.now _))))), .inl ⟨rfl, fun j hj ha => ?_⟩⟩
      · rw [List.length_drop]; omega
      · have := at_le ha hp
        omega

theorem back_hit (l p : List Int) (hl : l.length < 4611686018427387904) (i : Nat) (hi : i + p.length ≤ l.length) (ha : At l p i) (d : Nat) : ∀ j : Nat, j + d = p.length →
    Ev (fun k => readline_Runes_IndexAllBckEx.l1 k l p false (i : Int) true (j : Int)) (i : Int) := by
  induction d with
  | zero =>
    intro j hj
    refine Ev.step (fun k => by rw [readline_Runes_IndexAllBckEx.l1]) ?_
    exact ev_ifn (by omega) (ev_ifp rfl (Ev.now _))
  | succ d ih =>
    intro j hj
    have hq := (at_iff hi).1 ha j (by omega)
    have e1 : rd l ((i : Int) + j) = rd p (j : Int) := by
      rw [show (i : Int) + j = ((i + j : Nat) : Int) from by omega, rd_nat l _ (by omega), rd_nat p _ (by omega), hq]
    refine Ev.step (fun k => by rw [readline_Runes_IndexAllBckEx.l1, w64 (x := (i : Int) + j) (by omega) (by omega), w64 (x := (j : Int) + 1) (by omega) (by omega), equalRune, e1]) ?_
    refine ev_ifp (by omega) (ev_ifp (by omega) (ev_ifp (by omega) (ev_ifp (by omega) ?_)))
    simp only [Option.bind_some, decide_true, if_true]
    have := ih (j + 1) (by omega)
    rwa [show ((j + 1 : Nat) : Int) = (j : Int) + 1 from by omega] at this
theorem back_miss (l p : List Int) (hl : l.length < 4611686018427387904) (i : Nat) (hi : i + p.length ≤ l.length) (r : Int) (hr : Ev (fun k => readline_Runes_IndexAllBckEx.l0 k l p false ((i : Int) - 1)) r) (d : Nat) : ∀ j : Nat, j + d = p.length →
    (∃ t, ∃ ht : t < p.length, j ≤ t ∧ l[i + t] ≠ p[t]) → Ev (fun k => readline_Runes_IndexAllBckEx.l1 k l p false (i : Int) true (j : Int)) r := by
  induction d with
  | zero => rintro j hj ⟨t, ht, h1, _⟩; omega
  | succ d ih =>
    rintro j hj ⟨t, ht, h1, h2⟩
    refine Ev.step (fun k => by rw [readline_Runes_IndexAllBckEx.l1, w64 (x := (i : Int) + j) (by omega) (by omega), w64 (x := (j : Int) + 1) (by omega) (by omega), w64 (x := (i : Int) - 1) (by omega) (by omega), equalRune]) ?_
    refine ev_ifp (by omega) (ev_ifp (by omega) (ev_ifp (by omega) (ev_ifp (by omega) ?_)))
    simp only [Option.bind_some]
    have e1 : rd l ((i : Int) + j) = l[i + j] := by rw [show (i : Int) + j = ((i + j : Nat) : Int) from by omega, rd_nat l _ (by omega)]
    have e2 : rd p (j : Int) = p[j] := rd_nat p _ (by omega)
    rw [e1, e2]
    by_cases hq : l[i + j] = p[j]
    · simp only [hq, decide_true, if_true]
      have hne : t ≠ j := by rintro rfl; exact h2 hq
      have := ih (j + 1) (by omega) ⟨t, ht, by omega, h2⟩
      rwa [show ((j + 1 : Nat) : Int) = (j : Int) + 1 from by omega] at this
    · simp only [hq, decide_false, Bool.false_eq_true, if_false]
      exact hr
/-- from i - 1 on -/
theorem last_search (l p : List Int) (hl : l.length < 4611686018427387904) : ∀ i : Nat, i + p.length ≤ l.length + 1 →
    ∃ r, Ev (fun k => readline_Runes_IndexAllBckEx.l0 k l p false ((i : Int) - 1)) r ∧ Last l p i r := by
  intro i
  induction i with
  | zero => exact fun _ => ⟨-1, Ev.step (fun k => by rw [readline_Runes_IndexAllBckEx.l0]) (ev_ifn (by omega) (Ev.now _)), .inl ⟨rfl, fun j hj => by omega⟩⟩
  | succ i ih =>
    intro hle
    obtain ⟨r, hr, hf⟩ := ih (by omega)
    have step : ∀ r, Ev (fun k => readline_Runes_IndexAllBckEx.l1 k l p false (i : Int) true 0) r → Ev (fun k => readline_Runes_IndexAllBckEx.l0 k l p false (((i + 1 : Nat) : Int) - 1)) r := by
      intro r hr
      refine Ev.step (fun k => by rw [readline_Runes_IndexAllBckEx.l0]) ?_
      rw [show ((i + 1 : Nat) : Int) - 1 = (i : Int) from by omega]
      exact ev_ifp (by omega) hr
    by_cases ha : At l p i
    · exact ⟨i, step _ (back_hit l p hl i (by omega) ha p.length 0 (by omega)), .inr ⟨i, rfl, by omega, ha, fun j h1 h2 => by omega⟩⟩
    · have hm : ∃ t, ∃ ht : t < p.length, 0 ≤ t ∧ l[i + t] ≠ p[t] := by
        apply Classical.byContradiction
        intro hn
        exact ha ((at_iff (by omega)).2 fun t ht => Classical.byContradiction fun h => hn ⟨t, ht, Nat.zero_le _, h⟩)
      refine ⟨r, step _ (back_miss l p hl i (by omega) r hr p.length 0 (by omega) hm), ?_⟩
      rcases hf with ⟨rfl, hf⟩ | ⟨n, rfl, h1, h2, h3⟩
      · refine .inl ⟨rfl, fun j hj => ?_⟩
        rcases Nat.eq_or_lt_of_le (Nat.lt_succ_iff.1 hj) with rfl | h
        · exact ha
        · exact hf j h
      · refine .inr ⟨n, rfl, by omega, h2, fun j hj hn => ?_⟩
        rcases Nat.eq_or_lt_of_le (Nat.lt_succ_iff.1 hn) with rfl | h
        · exact ha
        · exact h3 j hj h

theorem ascii_loop (s : ByteArray) (hs : s.size ≤ 2147483647) (d : Nat) : ∀ i : Nat, i + d = s.size →
    ∃ b, Ev (fun k => laws_ascii9.l0 k s (s.size : Int) (i : Int)) b ∧ (b = true → s.size ≤ 300 ∧ ∀ j (hj : j < s.size), i ≤ j → (s.data.toList[j]'(by rw [dlen]; exact hj)).toNat < 128) := by
  induction d with
  | zero =>
    intro i hi
    exact ⟨decide ((s.size : Int) ≤ 300), Ev.step (fun k => by rw [laws_ascii9.l0]) (ev_ifn (by omega) (Ev.now _)), fun h => ⟨by have := of_decide_eq_true h; omega, fun j hj h => by omega⟩⟩
  | succ d ih =>
    intro i hi
    obtain ⟨b, hb, hq⟩ := ih (i + 1) (by omega)
    rw [show ((i + 1 : Nat) : Int) = (i : Int) + 1 from by omega] at hb
    have e1 := bt_nat s i (by omega)
    by_cases h : (128 : Int) ≤ bt s (i : Int)
    · exact ⟨false, Ev.step (fun k => by rw [laws_ascii9.l0]) (ev_ifp (by omega) (ev_ifp (by omega) (ev_ifp (by omega) (ev_ifp h (Ev.now _))))), fun h => by cases h⟩
    · refine ⟨b, Ev.step (fun k => by rw [laws_ascii9.l0, w64 (x := (i : Int) + 1) (by omega) (by omega)]) (ev_ifp (by omega) (ev_ifp (by omega) (ev_ifp (by omega) (ev_ifn h hb)))), fun hbt => ⟨(hq hbt).1, fun j hj hij => ?_⟩⟩
      rcases Nat.eq_or_lt_of_le hij with rfl | hlt
      · omega
      · exact (hq hbt).2 j hj hlt
theorem ascii_tells (s : ByteArray) (hs : s.size ≤ 2147483647) : ∃ b, Ev (fun k => laws_ascii9.f k s) b ∧ (b = true → s.size ≤ 300 ∧ Asc s) := by
  obtain ⟨b, hb, hq⟩ := ascii_loop s hs s.size 0 (by omega)
  refine ⟨b, hb, fun h => ⟨(hq h).1, fun x hx => ?_⟩⟩
  obtain ⟨j, hj, rfl⟩ := List.getElem_of_mem hx
  exact (hq h).2 j (by rw [← dlen]; exact hj) (Nat.zero_le _)

theorem turned_loop (s : ByteArray) (hs : s.size ≤ 300) (d : Nat) : ∀ (i : Nat) (acc : ByteArray), i + d = s.size → ints acc = ((ints s).take i).reverse →
    ∃ t, Ev (fun k => spec_Turned.l0 k s acc (s.size : Int) (i : Int)) t ∧ ints t = (ints s).reverse := by
  induction d with
  | zero =>
    intro i acc hi hacc
    refine ⟨acc, Ev.step (fun k => by rw [spec_Turned.l0]) (ev_ifn (by omega) (Ev.now _)), ?_⟩
    rw [hacc, List.take_of_length_le (by rw [ints_length]; omega)]
  | succ d ih =>
    intro i acc hi hacc
    have hsz : acc.size = i := by rw [← ints_length, hacc]; simp [ints_length]; omega
    have hlt : i < (ints s).length := by rw [ints_length]; omega
    have e0 : ints (s.extract i (i + 1)) = [(ints s)[i]] := by
      rw [ints_extract, Nat.add_sub_cancel_left, List.drop_eq_getElem_cons hlt]; rfl
    have e1 : ints (s.extract i (i + 1) ++ acc) = ((ints s).take (i + 1)).reverse := by
      rw [ints_append, e0, hacc, List.take_succ_eq_append_getElem hlt, List.reverse_append]; rfl
    have esz : (s.extract i (i + 1)).size = 1 := by rw [← ints_length, e0]; rfl
    obtain ⟨t, ht, hq⟩ := ih (i + 1) _ (by omega) e1
    rw [show ((i + 1 : Nat) : Int) = (i : Int) + 1 from by omega] at ht
    refine ⟨t, Ev.step (fun k => by rw [spec_Turned.l0, w64 (x := (i : Int) + 1) (by omega) (by omega), show ((i : Int) + 1).toNat = i + 1 from by omega, Int.toNat_natCast]) ?_, hq⟩
    exact ev_ifp (by omega) (ev_ifp (by omega) (ev_ifp (by omega) (ev_ifp (by omega) (ev_ifp (by rw [esz]; omega) ht))))
theorem turned_tells (s : ByteArray) (hs : s.size ≤ 300) : ∃ t, Ev (fun k => spec_Turned.f k s) t ∧ ints t = (ints s).reverse := turned_loop s hs s.size 0 _ (by omega) (by simp [ints])
theorem asc_of_ints {t : ByteArray} (h : ∀ x ∈ ints t, 0 ≤ x ∧ x < 128) : Asc t := by
  intro b hb
  have := h (b.toNat : Int) (by unfold ints; exact List.mem_map.2 ⟨b, hb, rfl⟩)
  omega

theorem indexAll_tells (s p : ByteArray) (hs : Asc s) (hp : Asc p) (hl : s.size ≤ 300) (hl2 : p.size ≤ 300) (hne : ints p ≠ []) : ∃ r, Ev (fun k => impl_IndexAll.f k s p) r ∧ First (ints s) (ints p) 0 r := by
  obtain ⟨r, hr, hf⟩ := first_search (ints s) (ints p) (by rw [ints_length]; omega) hne (ints s).length 0 (by omega)
  refine ⟨r, ?_, hf⟩
  unfold impl_IndexAll.f
  refine ev_ifp (by rw [runesOf_asc hs, ints_length]; omega) (ev_ifp (by rw [runesOf_asc hp, ints_length]; omega) (ev_bind ?_ (Ev.now _)))
  rw [runesOf_asc hs, runesOf_asc hp]
  unfold readline_Runes_IndexAll.f readline_Runes_IndexAllEx.f
  exact ev_bind hr (Ev.now _)
theorem indexBack_tells (s p : ByteArray) (hs : Asc s) (hp : Asc p) (hl : s.size ≤ 300) (hl2 : p.size ≤ 300) (hne : ints p ≠ []) : ∃ r, Ev (fun k => impl_IndexBack.f k s p false) r ∧ Last (ints s) (ints p) (s.size + 1 - p.size) r := by
  have hpl : 0 < p.size := by rw [← ints_length]; exact List.length_pos_iff.2 hne
  have main : ∃ r, Ev (fun k => readline_Runes_IndexAllBckEx.l0 k (ints s) (ints p) false (wrap64 (((ints s).length : Int) - ((ints p).length : Int)))) r ∧ Last (ints s) (ints p) (s.size + 1 - p.size) r := by
    rw [ints_length, ints_length, w64 (by omega) (by omega)]
    by_cases hle : p.size ≤ s.size
    · obtain ⟨r, hr, hf⟩ := last_search (ints s) (ints p) (by rw [ints_length]; omega) (s.size + 1 - p.size) (by rw [ints_length, ints_length]; omega)
      refine ⟨r, ?_, hf⟩
      rwa [show ((s.size + 1 - p.size : Nat) : Int) - 1 = (s.size : Int) - (p.size : Int) from by omega] at hr
    · refine ⟨-1, Ev.step (fun k => by rw [readline_Runes_IndexAllBckEx.l0]) (ev_ifn (by omega) (Ev.now _)), .inl ⟨rfl, fun j hj => by omega⟩⟩
  obtain ⟨r, hr, hf⟩ := main
  refine ⟨r, ?_, hf⟩
  unfold impl_IndexBack.f
  refine ev_ifp (by rw [runesOf_asc hs, ints_length]; omega) (ev_ifp (by rw [runesOf_asc hp, ints_length]; omega) (ev_bind ?_ (Ev.now _)))
  rw [runesOf_asc hs, runesOf_asc hp]
  exact hr
theorem ab_b : Ev (fun k => impl_IndexAll.f k (⟨#[97, 98]⟩ : ByteArray) (⟨#[98]⟩ : ByteArray)) 1 := by
  obtain ⟨r, hr, hf⟩ := indexAll_tells (⟨#[97, 98]⟩ : ByteArray) (⟨#[98]⟩ : ByteArray) (by intro b hb; simp at hb; rcases hb with rfl | rfl <;> decide) (by intro b hb; simp at hb; subst hb; decide) (by decide) (by decide) (by decide)
  have : r = 1 := by
    rcases hf with ⟨_, h⟩ | ⟨n, rfl, _, h2, h3⟩
    · exact absurd (by decide : At (ints ⟨#[97, 98]⟩) (ints ⟨#[98]⟩) 1) (h 1 (by omega))
    · have h0 : ¬ At (ints ⟨#[97, 98]⟩) (ints ⟨#[98]⟩) 0 := by decide
      have h1 := at_le h2 (by decide)
      have h4 : (ints (⟨#[97, 98]⟩ : ByteArray)).length = 2 := rfl
      have h5 : (ints (⟨#[98]⟩ : ByteArray)).length = 1 := rfl
      have : n ≠ 0 := by rintro rfl; exact h0 h2
      omega
  rwa [this] at hr

theorem FnIndexBoth : laws_FnIndexBoth.Pure := by
  intro s p hs0 hp0
  refine Ev.rounds (r := true) ?_
  have start : ∀ b : Bool, (b = false → s.size ≤ 2147483647 ∧ p.size ≤ 2147483647) → Ev (fun k => laws_FnIndexBoth.j0 k s p b) true := by
    intro b hb
    refine Ev.step (fun k => by rw [laws_FnIndexBoth.j0]) ?_
    cases b with
    | true => exact ev_ifp rfl (Ev.now _)
    | false =>
      obtain ⟨hs, hp⟩ := hb rfl
      refine ev_ifn (by simp) ?_
      have over : Ev (fun k => laws_FnIndexBoth.j1 k s p true) true := Ev.step (fun k => by rw [laws_FnIndexBoth.j1]) (ev_ifp rfl (Ev.now _))
      obtain ⟨b1, h1, q1⟩ := ascii_tells s hs
      refine ev_bind h1 ?_
      cases b1 with
      | false => exact ev_ifn (by simp) over
      | true =>
        refine ev_ifp rfl ?_
        obtain ⟨b2, h2, q2⟩ := ascii_tells p hp
        refine ev_bind h2 ?_
        cases b2 with
        | false => exact ev_ifn (by simp) over
        | true =>
          refine ev_ifp rfl ?_
          obtain ⟨hs3, has⟩ := q1 rfl
          obtain ⟨hp3, hap⟩ := q2 rfl
          by_cases hne : ints p = []
          · have : (p.toList == ([] : List UInt8)) = true := by
              rw [beq_iff_eq, Lib.toList_data]
              unfold ints at hne
              simpa using hne
            rw [this]
            exact over
          · have : (p.toList == ([] : List UInt8)) = false := by
              rw [beq_eq_false_iff_ne, Lib.toList_data]
              intro h
              exact hne (by unfold ints; rw [h]; rfl)
            rw [this]
            refine Ev.step (fun k => by rw [laws_FnIndexBoth.j1]) (ev_ifn (by simp) ?_)
            obtain ⟨a, ha, fa⟩ := indexAll_tells s p has hap hs3 hp3 hne
            obtain ⟨b, hb, fb⟩ := indexBack_tells s p has hap hs3 hp3 hne
            obtain ⟨s', hs', es⟩ := turned_tells s hs3
            obtain ⟨p', hp', ep⟩ := turned_tells p hp3
            have ss : s'.size = s.size := by rw [← ints_length, es]; simp [ints_length]
            have sp : p'.size = p.size := by rw [← ints_length, ep]; simp [ints_length]
            have has' : Asc s' := asc_of_ints (by rw [es]; intro x hx; exact asc_ints has x (by simpa using hx))
            have hap' : Asc p' := asc_of_ints (by rw [ep]; intro x hx; exact asc_ints hap x (by simpa using hx))
            obtain ⟨c, hc, fc⟩ := indexAll_tells s' p' has' hap' (by omega) (by omega) (by rw [ep]; simpa using hne)
            refine ev_bind ha (ev_bind hb (ev_bind hs' (ev_bind hp' (ev_bind hc ?_))))
            have hpl : 0 < p.size := by rw [← ints_length]; exact List.length_pos_iff.2 hne
            rw [es, ep] at fc
            have ls := ints_length s
            have lp := ints_length p
            rcases fa with ⟨rfl, na⟩ | ⟨n, rfl, _, an, fn⟩
            · -- nowhere
              have eb : b = -1 := by
                rcases fb with ⟨rfl, _⟩ | ⟨m, rfl, _, am, _⟩
                · rfl
                · exact absurd am (na m (by omega))
              have ec : c = -1 := by
                rcases fc with ⟨rfl, _⟩ | ⟨m, rfl, _, am, _⟩
                · rfl
                · exact absurd ((at_reverse hne).1 am).2 (na _ (by omega))
              subst eb ec
              refine ev_ifp (by omega) (ev_ifp rfl (ev_ifp rfl (ev_ifp rfl (ev_bind ab_b (ev_some (by decide))))))
            · have hn := at_le an hne
              rcases fb with ⟨rfl, nb⟩ | ⟨m, rfl, m1, am, fm⟩
              · exact absurd an (nb n (by omega))
              · have hm := at_le am hne
                have hnm : n ≤ m := by
                  rcases Nat.lt_or_ge m n with h | h
                  · exact absurd am (fn m (by omega) h)
                  · exact h
                have ec : c = (s.size : Int) - p.size - m := by
                  have key : At (ints s).reverse (ints p).reverse (s.size - p.size - m) := (at_reverse hne).2 ⟨by omega, by rwa [show (ints s).length - (ints p).length - (s.size - p.size - m) = m from by omega]⟩
                  rcases fc with ⟨rfl, h⟩ | ⟨q, rfl, _, aq, fq⟩
                  · exact absurd key (h _ (by omega))
                  · obtain ⟨q1, q2⟩ := (at_reverse hne).1 aq
                    have h1 : q ≤ s.size - p.size - m := by
                      rcases Nat.lt_or_ge (s.size - p.size - m) q with h | h
                      · exact absurd key (fq _ (by omega) h)
                      · exact h
                    have h2 : ¬ q < s.size - p.size - m := fun h => fm ((ints s).length - (ints p).length - q) (by omega) (by omega) q2
                    omega
                subst ec
                have cut : ∀ j : Nat, At (ints s) (ints p) j → j + p.size ≤ s.size → (s.extract j (j + p.size)).toList = p.toList := by
                  intro j aj hj
                  have : s.extract j (j + p.size) = p := ints_inj (by rw [ints_extract, Nat.add_sub_cancel_left, ← lp]; exact aj)
                  rw [this]
                rw [w64 (x := (m : Int) + p.size) (by omega) (by omega), w64 (x := (s.size : Int) - p.size) (by omega) (by omega), w64 (x := (s.size : Int) - p.size - m) (by omega) (by omega), w64 (x := (n : Int) + p.size) (by omega) (by omega),
                  show ((n : Int) + p.size).toNat = n + p.size from by omega, show ((m : Int) + p.size).toNat = m + p.size from by omega, Int.toNat_natCast, Int.toNat_natCast, cut n an (by omega), cut m am (by omega)]
                refine ev_ifn (by omega) (ev_ifn (by omega) (ev_ifp (by omega) (ev_ifp (by omega) (ev_ifp rfl (ev_ifp (by omega) (ev_ifp (by omega) (ev_ifp (by omega) (ev_ifp rfl (ev_ifp (by omega) (ev_ifp (by omega) (ev_some (by simp))))))))))))
  unfold laws_FnIndexBoth.f
  by_cases h : (s.size : Int) > 2147483647
  · exact ev_ifp h (start true (fun h => by cases h))
  · refine ev_ifn h (start _ (fun hq => ⟨by omega, ?_⟩))
    have := of_decide_eq_false hq
    omega
end Go.Proofs.Ythkblefeifdhaaa.Pure
