/- What texts all begin with is the same in any order: the pure statement behind the law FnAggregatedAll; no condition. -/
import Derived.Test.YthbdaoapjnofkaaDoorQPFnAggregatedAllx4
import Derived.Test.YthbdaoapjnofkaaDoorQXPure
import Derived.Test.YthbdaoapjnofkaaDoorQHUtf
namespace Go.Proofs.YthbdaoapjnofkaaDoor.Pure
open Go.RowKit Go.Proofs.YthbdaoapjnofkaaDoor.R Go.Proofs.YthbdaoapjnofkaaDoor.X Go.Proofs.YthbdaoapjnofkaaDoor.H Go.Proofs.YthbdaoapjnofkaaDoor.PFnAggregatedAll Go.Proofs.YthbdaoapjnofkaaDoorW.PrintWords Go.Proofs.YthbdaoapjnofkaaDoorW.PrintLast
set_option linter.unusedVariables false
theorem fits_tells (l : List ByteArray) : ∃ b, Ev (fun k => laws_zzFits1.f k l) b := by
  unfold laws_zzFits1.f
  by_cases hc : (l.length : Int) > 2147483647
  · exact ⟨false, ev_ifp hc (Ev.now _)⟩
  suffices h : ∀ (d i : Nat), i + d = l.length → ∃ b, Ev (fun k => laws_zzFits1.l0 k l (l.length : Int) (i : Int)) b by
    obtain ⟨b, hb⟩ := h l.length 0 (by omega)
    exact ⟨b, ev_ifn hc hb⟩
  intro d
  induction d with
  | zero => intro i hi; exact ⟨true, Ev.step (fun k => by rw [laws_zzFits1.l0]) (ev_ifn (by omega) (Ev.now _))⟩
  | succ d ih =>
    intro i hi
    obtain ⟨b, hb⟩ := ih (i + 1) (by omega)
    rw [show ((i + 1 : Nat) : Int) = (i : Int) + 1 from by omega] at hb
    by_cases h3 : ((rdOf ByteArray.empty l (i : Int)).size : Int) > 2147483647
    · exact ⟨false, Ev.step (fun k => by rw [laws_zzFits1.l0]) (ev_ifp (by omega) (ev_ifp (by omega) (ev_ifp (by omega) (ev_ifp h3 (Ev.now _)))))⟩
    · exact ⟨b, Ev.step (fun k => by rw [laws_zzFits1.l0, w64 (x := (i : Int) + 1) (by omega) (by omega)]) (ev_ifp (by omega) (ev_ifp (by omega) (ev_ifp (by omega) (ev_ifn h3 hb))))⟩
theorem rdOf_at (l : List ByteArray) (i : Nat) (h : i < l.length) : rdOf ByteArray.empty l (i : Int) = l[i] := by
  unfold rdOf
  rw [List.getD_eq_getElem?_getD]
  simp [List.getElem?_eq_getElem h]
theorem whole_tells (l : List ByteArray) (hl : l.length ≤ 1000) : ∃ b, Ev (fun k => laws_whole9.f k l) b ∧ (b = true → ∀ s ∈ l, s.size ≤ 300) := by
  suffices h : ∀ (d i : Nat), i + d = l.length → ∃ b, Ev (fun k => laws_whole9.l0 k l (l.length : Int) (i : Int)) b ∧ (b = true → ∀ j (hj : j < l.length), i ≤ j → l[j].size ≤ 300) by
    obtain ⟨b, hb, hq⟩ := h l.length 0 (by omega)
    refine ⟨b, hb, fun e s hs => ?_⟩
    obtain ⟨j, hj, rfl⟩ := List.getElem_of_mem hs
    exact hq e j hj (Nat.zero_le _)
  intro d
  induction d with
  | zero => intro i hi; exact ⟨true, Ev.step (fun k => by rw [laws_whole9.l0]) (ev_ifn (by omega) (Ev.now _)), fun _ j hj hij => by omega⟩
  | succ d ih =>
    intro i hi
    have hlt : i < l.length := by omega
    obtain ⟨b, hb, hq⟩ := ih (i + 1) (by omega)
    rw [show ((i + 1 : Nat) : Int) = (i : Int) + 1 from by omega] at hb
    have er := rdOf_at l i hlt
    by_cases h3 : (l[i].size : Int) > 300
    · exact ⟨false, Ev.step (fun k => by rw [laws_whole9.l0, er]) (ev_ifp (by omega) (ev_ifp (by omega) (ev_ifp (by omega) (ev_ifp h3 (Ev.now _))))), fun h => by cases h⟩
    · have ew : spec_Whole.f l[i] = some (wholeB l[i]) := by unfold spec_Whole.f; rw [if_pos (by omega)]
      cases hw : wholeB l[i] with
      | false => exact ⟨false, Ev.step (fun k => by rw [laws_whole9.l0, er, ew, hw]) (ev_ifp (by omega) (ev_ifp (by omega) (ev_ifp (by omega) (ev_ifn h3 (by simp only [Option.bind_some]; exact ev_ifn (by simp) (Ev.now _)))))), fun h => by cases h⟩
      | true =>
        refine ⟨b, Ev.step (fun k => by rw [laws_whole9.l0, er, ew, hw, w64 (x := (i : Int) + 1) (by omega) (by omega)]) (ev_ifp (by omega) (ev_ifp (by omega) (ev_ifp (by omega) (ev_ifn h3 (by simp only [Option.bind_some]; exact ev_ifp trivial hb))))), fun e j hj hij => ?_⟩
        rcases Nat.eq_or_lt_of_le hij with rfl | hlt2
        · omega
        · exact hq e j hj hlt2
theorem drop_rd (l : List Int) (i : Nat) (h : i < l.length) : l.drop i = rd l (i : Int) :: l.drop (i + 1) := by
  rw [rd_nat l i h, List.drop_eq_getElem_cons h]
theorem equal_loop (l p : List Int) (hl : p.length = l.length) (hl2 : l.length ≤ 4611686018427387904) (d : Nat) : ∀ i : Nat, i + d = l.length →
    Ev (fun k => readline_Runes_Equal.l0 k l p (i : Int)) (decide (l.drop i = p.drop i)) := by
  induction d with
  | zero =>
    intro i hi
    rw [List.drop_of_length_le (show p.length ≤ i by omega), List.drop_of_length_le (show l.length ≤ i by omega)]
    exact Ev.step (fun k => by rw [readline_Runes_Equal.l0]) (ev_ifn (by omega) (ev_some (by simp)))
  | succ d ih =>
    intro i hi
    have h := ih (i + 1) (by omega)
    rw [show ((i + 1 : Nat) : Int) = (i : Int) + 1 from by omega] at h
    rw [drop_rd l i (by omega), drop_rd p i (by omega)]
    refine Ev.step (fun k => by rw [readline_Runes_Equal.l0, w64 (x := (i : Int) + 1) (by omega) (by omega)]) ?_
    refine ev_ifp (by omega) (ev_ifp (by omega) (ev_ifp (by omega) ?_))
    by_cases he : rd l i = rd p i
    · rw [he]
      simp only [List.cons.injEq, true_and]
      exact ev_ifp trivial h
    · exact ev_ifn he (ev_some (by simp [he]))
theorem begins_tells (a b : ByteArray) (ha : (runesOf a).length ≤ 1000000) (hb : (runesOf b).length ≤ 1000000) :
    Ev (fun k => impl_BeginsRunes.f k a b false) (decide ((runesOf a).take (runesOf b).length = runesOf b)) := by
  unfold impl_BeginsRunes.f
  refine ev_ifn (by simp) (ev_ifp (by omega) (ev_ifp (by omega) (ev_bind (a := decide ((runesOf a).take (runesOf b).length = runesOf b)) ?_ (Ev.now _))))
  generalize runesOf a = l at *
  generalize runesOf b = p at *
  unfold readline_Runes_HasPrefix.f
  by_cases h : (l.length : Int) < (p.length : Int)
  · refine ev_ifp h (ev_some ?_)
    symm
    rw [decide_eq_false_iff_not]
    intro e
    have := congrArg List.length e
    rw [List.length_take] at this
    omega
  · refine ev_ifn h (ev_ifp (by omega) (ev_ifp (by omega) ?_))
    rw [Int.toNat_natCast]
    refine ev_bind (a := decide (l.take p.length = p)) ?_ (Ev.now _)
    have hlen : (l.take p.length).length = p.length := by rw [List.length_take]; omega
    unfold readline_Runes_Equal.f
    refine ev_ifp (by omega) ?_
    have := equal_loop (l.take p.length) p (by omega) (by omega) p.length 0 (by omega)
    simpa using this
theorem take_same {a b : List Int} {n : Nat} (ha : n ≤ a.length) (hb : n ≤ b.length) (h : ∀ i, i < n → a.getD i 0 = b.getD i 0) : a.take n = b.take n := by
  refine List.ext_getElem (by simp; omega) fun i h1 h2 => ?_
  rw [List.length_take] at h1 h2
  have := h i (by omega)
  rw [List.getD_eq_getElem?_getD, List.getD_eq_getElem?_getD, List.getElem?_eq_getElem (by omega), List.getElem?_eq_getElem (by omega)] at this
  rw [List.getElem_take, List.getElem_take]
  exact this
theorem same_take {a b : List Int} {n : Nat} (hb : n ≤ b.length) (h : a.take n = b.take n) : n ≤ a.length ∧ ∀ i, i < n → a.getD i 0 = b.getD i 0 := by
  have hl := congrArg List.length h
  rw [List.length_take, List.length_take] at hl
  refine ⟨by omega, fun i hi => ?_⟩
  have := congrArg (fun l => l.getD i 0) h
  simp only [List.getD_eq_getElem?_getD, List.getElem?_take_of_lt hi] at this
  rw [List.getD_eq_getElem?_getD, List.getD_eq_getElem?_getD]
  exact this
/-- The same texts in another order. -/
theorem aggT_same {l m : List ByteArray} (hl : l ≠ []) (hm : m ≠ []) (hs : ∀ s, s ∈ l ↔ s ∈ m) : aggT l = aggT m := by
  obtain ⟨s, t, rfl⟩ := List.exists_cons_of_ne_nil hl
  obtain ⟨s', t', rfl⟩ := List.exists_cons_of_ne_nil hm
  have hmem : ∀ x, x ∈ (s :: t).map runesOf ↔ x ∈ (s' :: t').map runesOf := fun x => by
    simp only [List.mem_map]
    exact ⟨fun ⟨y, hy, e⟩ => ⟨y, (hs y).1 hy, e⟩, fun ⟨y, hy, e⟩ => ⟨y, (hs y).2 hy, e⟩⟩
  have hn : aggN ((s :: t).map runesOf) = aggN ((s' :: t').map runesOf) := agg_same (aggN_is _) (aggN_is _) (by simp) (by simp) hmem
  have hc := agg_com (aggN_is ((s :: t).map runesOf)) (by simp)
  have h1 := hc (runesOf s) (by simp) (runesOf s') (by rw [hmem]; simp)
  have h2 := hc (runesOf s') (by rw [hmem]; simp) (runesOf s') (by rw [hmem]; simp)
  simp only [aggT]
  rw [← hn, take_same h1.1 h2.1 h1.2]
theorem agg_f (l : List ByteArray) (hl : l.length ≤ 1000) (hs : ∀ s ∈ l, s.size ≤ 300) : impl_Aggregated.f l = some (aggT l) := by
  unfold impl_Aggregated.f
  rw [if_pos ⟨hl, fun s h => by have := hs s h; omega⟩]
theorem small_agg : aggT [⟨#[97, 98]⟩, ⟨#[97, 99]⟩] = (⟨#[97]⟩, 1) := by decide +kernel
theorem runes_take (x : List Int) (n : Nat) (hv : ∀ y ∈ x, Utf8.valid y = true) : runesOf (runesBytes (x.take n)) = x.take n := runesOf_bytes _ fun y hy => hv y (List.mem_of_mem_take hy)
/-- The last loop. -/
theorem last_loop (l : List ByteArray) (hl : l.length ≤ 12) (h0 : 0 < l.length) (hs : ∀ s ∈ l, s.size ≤ 300) (n : Nat) (hn : n = aggN (l.map runesOf)) (d : Nat) : ∀ (i : Nat) (fl : Bool), i + d = l.length →
    (fl = true → (n < (runesOf l[0]).length → ∃ j, ∃ hj : j < l.length, i ≤ j ∧ (runesOf l[j]).take (n + 1) ≠ (runesOf l[0]).take (n + 1)) ∧ ((runesOf l[0]).length ≤ n → i < l.length)) →
    Ev (fun k => laws_FnAggregatedAll.l1 k l (runesBytes ((runesOf l[0]).take n)) (n : Int) (runesOf l[0]) fl (l.length : Int) (i : Int)) true := by
  have hv := runesOf_valid l[0]
  have hc := agg_com (aggN_is (l.map runesOf)) (by simpa using h0)
  rw [← hn] at hc
  have hm0 : runesOf l[0] ∈ l.map runesOf := List.mem_map.2 ⟨_, List.getElem_mem h0, rfl⟩
  have hn0 : n ≤ (runesOf l[0]).length := (hc _ hm0 _ hm0).1
  have hz : ∀ j (hj : j < l.length), (runesOf l[j]).length ≤ 300 := fun j hj => Nat.le_trans (runesOf_length _) (hs _ (List.getElem_mem hj))
  have hz0 := hz 0 h0
  have hrt := runes_take (runesOf l[0]) n hv
  induction d with
  | zero =>
    intro i fl hi hfl
    have hf : fl = false := by
      cases fl with
      | false => rfl
      | true =>
        obtain ⟨f1, f2⟩ := hfl rfl
        rcases Nat.lt_or_ge n (runesOf l[0]).length with h | h
        · obtain ⟨j, hj, hij, _⟩ := f1 h; omega
        · have := f2 h; omega
    subst hf
    have e1 := agg_f [⟨#[97, 98]⟩, ⟨#[97, 99]⟩] (by simp) (by intro s hs; simp at hs; rcases hs with rfl | rfl <;> decide)
    rw [small_agg] at e1
    refine Ev.step (fun k => by rw [laws_FnAggregatedAll.l1, e1]) (ev_ifn (by omega) ?_)
    simp only [Option.bind_some]
    refine ev_ifn (by simp) (ev_ifp (by simp [ByteArray.toList_eq]) (ev_some (by rfl)))
  | succ d ih =>
    intro i fl hi hfl
    have hlt : i < l.length := by omega
    have er := rdOf_at l i hlt
    have e64 : wrap64 ((i : Int) + 1) = ((i + 1 : Nat) : Int) := by rw [w64 (by omega) (by omega)]; omega
    have n64 : wrap64 ((n : Int) + 1) = ((n + 1 : Nat) : Int) := by rw [w64 (by omega) (by omega)]; omega
    have next : ∀ (fl' : Bool), (fl' = true → (n < (runesOf l[0]).length → ∃ j, ∃ hj : j < l.length, i + 1 ≤ j ∧ (runesOf l[j]).take (n + 1) ≠ (runesOf l[0]).take (n + 1)) ∧ ((runesOf l[0]).length ≤ n → i + 1 < l.length)) →
        Ev (fun k => laws_FnAggregatedAll.l1 k l (runesBytes ((runesOf l[0]).take n)) (n : Int) (runesOf l[0]) fl' (l.length : Int) (wrap64 ((i : Int) + 1))) true := fun fl' h => by
      rw [e64]; exact ih (i + 1) fl' (by omega) h
    have nextF := next false (fun h => by cases h)
    have one : n < (runesOf l[0]).length → mn (wrap64 ((n : Int) + 1)) ((runesOf l[0]).length : Int) = ((n + 1 : Nat) : Int) := fun h => by
      unfold mn; rw [n64, if_neg (by omega)]
    have bt : n < (runesOf l[0]).length → Ev (fun k => impl_BeginsRunes.f k l[i] (runesBytes ((runesOf l[0]).take (n + 1))) false) (decide ((runesOf l[i]).take (n + 1) = (runesOf l[0]).take (n + 1))) := fun h => by
      have e2 := runes_take (runesOf l[0]) (n + 1) hv
      have := begins_tells l[i] (runesBytes ((runesOf l[0]).take (n + 1))) (by have := hz i hlt; omega) (by rw [e2, List.length_take]; omega)
      rw [e2, List.length_take, Nat.min_eq_left (by omega)] at this
      exact this
    have tl : Ev (fun k => if fl = true then (if (n : Int) < ((runesOf l[0]).length : Int) then (if (0 : Int) ≤ (mn (wrap64 ((n : Int) + 1)) ((runesOf l[0]).length : Int)) then (if (mn (wrap64 ((n : Int) + 1)) ((runesOf l[0]).length : Int)) ≤ ((runesOf l[0]).length : Int) then ((impl_BeginsRunes.f k l[i] (runesBytes ((runesOf l[0]).take ((mn (wrap64 ((n : Int) + 1)) ((runesOf l[0]).length : Int)) : Int).toNat)) false).bind fun t174 => (laws_FnAggregatedAll.l1 k l (runesBytes ((runesOf l[0]).take n)) (n : Int) (runesOf l[0]) t174 (l.length : Int) (wrap64 ((i : Int) + 1)))) else (none)) else (none)) else (laws_FnAggregatedAll.l1 k l (runesBytes ((runesOf l[0]).take n)) (n : Int) (runesOf l[0]) false (l.length : Int) (wrap64 ((i : Int) + 1)))) else (laws_FnAggregatedAll.l1 k l (runesBytes ((runesOf l[0]).take n)) (n : Int) (runesOf l[0]) false (l.length : Int) (wrap64 ((i : Int) + 1)))) true := by
      cases fl with
      | false => exact ev_ifn (by simp) nextF
      | true =>
        refine ev_ifp rfl ?_
        by_cases hq : n < (runesOf l[0]).length
        · refine ev_ifp (by omega) ?_
          rw [one hq, Int.toNat_natCast]
          refine ev_ifp (by omega) (ev_ifp (by omega) (ev_bind (bt hq) (next _ fun ht => ⟨fun _ => ?_, fun h => by omega⟩)))
          have hte := of_decide_eq_true ht
          obtain ⟨j, hj, hij, hne⟩ := (hfl rfl).1 hq
          refine ⟨j, hj, ?_, hne⟩
          rcases Nat.eq_or_lt_of_le hij with rfl | h
          · exact absurd hte hne
          · exact h
        · exact ev_ifn (by omega) nextF
    refine Ev.step (fun k => by rw [laws_FnAggregatedAll.l1, er]) (ev_ifp (by omega) ?_)
    by_cases he : (runesBytes ((runesOf l[0]).take n)).toList = ([] : List UInt8)
    · refine ev_ifp he ?_
      cases fl with
      | false => exact ev_ifn (by simp) nextF
      | true =>
        refine ev_ifp rfl ?_
        by_cases hq : n < (runesOf l[0]).length
        · refine ev_ifp (by omega) (ev_ifp (by omega) (ev_ifp (by omega) ?_))
          exact Ev.congr (fun k => by rw [if_pos (show true = true from rfl), if_pos (show (n : Int) < ((runesOf l[0]).length : Int) by omega)]) tl
        · exact ev_ifn (by omega) nextF
    · refine ev_ifn he (ev_ifp (by omega) (ev_ifp (by omega) (ev_bind (a := true) ?_ (ev_ifp rfl tl))))
      have := begins_tells l[i] (runesBytes ((runesOf l[0]).take n)) (by have := hz i hlt; omega) (by rw [hrt, List.length_take]; omega)
      rw [hrt, List.length_take, Nat.min_eq_left hn0] at this
      have hmi : runesOf l[i] ∈ l.map runesOf := List.mem_map.2 ⟨_, List.getElem_mem hlt, rfl⟩
      rw [decide_eq_true (take_same (hc _ hmi _ hm0).1 hn0 (hc _ hmi _ hm0).2)] at this
      exact this
theorem FnAggregatedAll : laws_FnAggregatedAll.Pure := by
  intro l hl hs
  suffices h : Ev (fun k => laws_FnAggregatedAll.f k l) true by
    obtain ⟨k, hk⟩ := h
    exact ⟨k, hk k (Nat.le_refl _)⟩
  unfold laws_FnAggregatedAll.f
  have done : Ev (fun k => laws_FnAggregatedAll.j0 k l true) true := Ev.step (fun k => by rw [laws_FnAggregatedAll.j0]) (ev_ifp rfl (Ev.now _))
  obtain ⟨b, hb⟩ := fits_tells l
  refine ev_bind hb ?_
  cases b with
  | false => exact ev_ifn (by simp) (Ev.now _)
  | true =>
    refine ev_ifp rfl ?_
    by_cases h0 : (l.length : Int) = 0
    · exact ev_ifp h0 done
    refine ev_ifn h0 ?_
    by_cases h12 : (l.length : Int) > 12
    · exact ev_ifp h12 done
    refine ev_ifn h12 ?_
    obtain ⟨b, hb, hq⟩ := whole_tells l (by omega)
    refine ev_bind hb ?_
    cases b with
    | false => exact done
    | true =>
      have hz := hq rfl
      have hpos : 0 < l.length := by omega
      have hne : l ≠ [] := List.ne_nil_of_length_pos hpos
      obtain ⟨n, hn⟩ : ∃ n, n = aggN (l.map runesOf) := ⟨_, rfl⟩
      have hT : aggT l = (runesBytes ((runesOf l[0]).take n), (n : Int)) := by
        cases l with
        | nil => simp at hpos
        | cons s t => unfold aggT; rw [hn]; rfl
      have hf := agg_f l (by omega) hz
      rw [hT] at hf
      show Ev (fun k => laws_FnAggregatedAll.j0 k l false) true
      refine Ev.step (fun k => by rw [laws_FnAggregatedAll.j0, hf]) (ev_ifn (by simp) ?_)
      simp only [Option.bind_some]
      rw [w64 (by omega) (by omega)]
      have key : ∀ m : Nat, m ≤ l.length → Ev (fun k => laws_FnAggregatedAll.l0 k l (runesBytes ((runesOf l[0]).take n)) (n : Int) ((l.drop m).reverse) ((m : Int) - 1)) true := by
        intro m
        induction m with
        | zero =>
          intro _
          have hrev : (List.drop 0 l).reverse = l.reverse := by simp
          have er := rdOf_at l 0 hpos
          have hmem : ∀ s, s ∈ l.reverse ++ [l[0]] ↔ s ∈ l := fun s => by
            simp only [List.mem_append, List.mem_reverse, List.mem_singleton]
            exact ⟨fun h => h.elim id (fun e => e ▸ List.getElem_mem hpos), .inl⟩
          have hf2 := agg_f (l.reverse ++ [l[0]]) (by simp; omega) (fun s hs => hz s ((hmem s).1 hs))
          rw [aggT_same (m := l) (by simp) hne hmem, hT] at hf2
          have hv := runesOf_valid l[0]
          have hrt := runes_take (runesOf l[0]) n hv
          have hm0 : runesOf l[0] ∈ l.map runesOf := List.mem_map.2 ⟨_, List.getElem_mem hpos, rfl⟩
          have hc := agg_com (aggN_is (l.map runesOf)) (by simpa using hpos)
          rw [← hn] at hc
          have hn0 : n ≤ (runesOf l[0]).length := (hc _ hm0 _ hm0).1
          have hz0 : (runesOf l[0]).length ≤ 300 := Nat.le_trans (runesOf_length _) (hz _ (List.getElem_mem hpos))
          refine Ev.step (fun k => by rw [laws_FnAggregatedAll.l0, hrev, show ((0 : Nat) : Int) = 0 from rfl, show rdOf ByteArray.empty l 0 = l[0] from er, hf2]) ?_
          refine ev_ifn (by omega) (ev_ifp (by omega) (ev_ifp (by simp; omega) ?_))
          simp only [Option.bind_some]
          refine ev_ifp (by omega) (ev_ifp trivial (ev_ifp trivial ?_))
          rw [hrt, List.length_take, Nat.min_eq_left hn0]
          refine ev_ifp (by omega) (ev_ifp rfl ?_)
          rw [decide_eq_false (by omega)]
          refine Ev.step (fun k => by rw [laws_FnAggregatedAll.j2]) (ev_ifn (by simp) ?_)
          refine last_loop l (by omega) hpos hz n hn l.length 0 true (by omega) fun _ => ⟨fun hlt => ?_, fun _ => hpos⟩
          apply Classical.byContradiction
          intro hno
          have hall : ∀ j (hj : j < l.length), (runesOf l[j]).take (n + 1) = (runesOf l[0]).take (n + 1) := fun j hj => by
            apply Classical.byContradiction
            intro hne
            exact hno ⟨j, hj, Nat.zero_le _, hne⟩
          have hm := agg_most (aggN_is (l.map runesOf)) (by simpa using hpos)
          rw [← hn] at hm
          apply hm
          intro a ha b hb
          obtain ⟨s, hs, rfl⟩ := List.mem_map.1 ha
          obtain ⟨t, ht, rfl⟩ := List.mem_map.1 hb
          obtain ⟨j, hj, rfl⟩ := List.getElem_of_mem hs
          obtain ⟨j', hj', rfl⟩ := List.getElem_of_mem ht
          have g1 := same_take (by omega) (hall j hj)
          have g2 := same_take (by omega) (hall j' hj')
          exact ⟨g1.1, fun i hi => by rw [g1.2 i hi, g2.2 i hi]⟩
        | succ m ih =>
          intro hm
          have h := ih (by omega)
          have er := rdOf_at l m (by omega)
          rw [List.drop_eq_getElem_cons (show m < l.length by omega), List.reverse_cons] at h
          refine Ev.step (fun k => by rw [laws_FnAggregatedAll.l0, show ((m + 1 : Nat) : Int) - 1 = (m : Int) by omega, er, w64 (x := (m : Int) - 1) (by omega) (by omega)]) ?_
          exact ev_ifp (by omega) (ev_ifp (by omega) (ev_ifp (by omega) (ev_ifp (by simp; omega) h)))
      have h := key l.length (Nat.le_refl _)
      rw [List.drop_length] at h
      exact h
end Go.Proofs.YthbdaoapjnofkaaDoor.Pure
