/- Filters of suggestions: the pure statement behind the law FnFiltered; no condition. -/
import Derived.Test.YthbdaoapjnofkaaDoorQPFnFilteredx5
namespace Go.Proofs.YthbdaoapjnofkaaDoor.Pure
open Go.RowKit Go.Proofs.YthbdaoapjnofkaaDoor.R Go.Proofs.YthbdaoapjnofkaaDoor.X Go.Proofs.YthbdaoapjnofkaaDoor.PFnFiltered Go.Proofs.YthbdaoapjnofkaaDoor.H Go.Proofs.YthbdaoapjnofkaaDoorW.PrintWords Go.Proofs.YthbdaoapjnofkaaDoorW.PrintLast
set_option linter.unusedVariables false
set_option linter.unusedSimpArgs false
/-! ### the guards -/
theorem ascii_loop (s : ByteArray) (hs : s.size ≤ 4611686018427387904) (d : Nat) : ∀ i : Nat, i + d = s.size →
    ∃ b, Ev (fun k => spec_ASCII.l0 k s (i : Int)) b ∧ (b = true → s.size ≤ 1000 ∧ ∀ j (hj : j < s.size), i ≤ j → (s.data.toList[j]'(by rw [dlen]; exact hj)).toNat < 128) := by
  induction d with
  | zero =>
    intro i hi
    exact ⟨decide ((s.size : Int) ≤ 1000), (by refine Ev.step (fun k => by rw [spec_ASCII.l0]) ?_; exact ev_ifn (by omega) (Ev.now _)), fun h => ⟨by have := of_decide_eq_true h; omega, fun j hj h => by omega⟩⟩
  | succ d ih =>
    intro i hi
    obtain ⟨b, hb, hq⟩ := ih (i + 1) (by omega)
    rw [show ((i + 1 : Nat) : Int) = (i : Int) + 1 from by omega] at hb
    have e1 := bt_nat s i (by omega)
    by_cases h : (128 : Int) ≤ bt s (i : Int)
    · exact ⟨false, (by refine Ev.step (fun k => by rw [spec_ASCII.l0]) ?_; exact ev_ifp (by omega) (ev_ifp (by omega) (ev_ifp h (Ev.now _)))), fun h => by cases h⟩
    · refine ⟨b, (by refine Ev.step (fun k => by rw [spec_ASCII.l0, w64 (x := (i : Int) + 1) (by omega) (by omega)]) ?_; exact ev_ifp (by omega) (ev_ifp (by omega) (ev_ifn h hb))), fun hbt => ⟨(hq hbt).1, fun j hj hij => ?_⟩⟩
      rcases Nat.eq_or_lt_of_le hij with rfl | hlt
      · omega
      · exact (hq hbt).2 j hj hlt
theorem ascii_tells (s : ByteArray) (hs : s.size ≤ 4611686018427387904) : ∃ b, Ev (fun k => spec_ASCII.f k s) b ∧ (b = true → s.size ≤ 1000 ∧ Asc s) := by
  obtain ⟨b, hb, hq⟩ := ascii_loop s hs s.size 0 (by omega)
  refine ⟨b, hb, fun h => ⟨(hq h).1, fun x hx => ?_⟩⟩
  obtain ⟨j, hj, rfl⟩ := List.getElem_of_mem hx
  exact (hq h).2 j (by rw [← dlen]; exact hj) (Nat.zero_le _)
theorem rd55 (L : List S55) (i : Nat) (h : i < L.length) : rd_T55 L (i : Int) = L[i] := by
  unfold rd_T55
  rw [Int.toNat_natCast, List.getD_eq_getElem?_getD, List.getElem?_eq_getElem h]
  rfl
theorem rd96 (L : List S96) (i : Nat) (h : i < L.length) : rd_T96 L (i : Int) = L[i] := by
  unfold rd_T96
  rw [Int.toNat_natCast, List.getD_eq_getElem?_getD, List.getElem?_eq_getElem h]
  rfl
theorem fits_tells (L : List S55) : ∃ b, Ev (fun k => laws_zzFits3.f k L) b ∧ (b = true → L.length ≤ 2147483647 ∧ ∀ x ∈ L, x.f0.size ≤ 2147483647) := by
  unfold laws_zzFits3.f
  by_cases hl : (L.length : Int) > 2147483647
  · exact ⟨false, ev_ifp hl (Ev.now _), fun h => by cases h⟩
  · have h : ∀ d i : Nat, i + d = L.length → ∃ b, Ev (fun k => laws_zzFits3.l0 k L (L.length : Int) (i : Int)) b ∧ (b = true → ∀ j (hj : j < L.length), i ≤ j → L[j].f0.size ≤ 2147483647) := by
      intro d
      induction d with
      | zero => intro i hi; exact ⟨true, (by refine Ev.step (fun k => by rw [laws_zzFits3.l0]) ?_; exact ev_ifn (by omega) (Ev.now _)), fun _ j hj h => by omega⟩
      | succ d ih =>
        intro i hi
        obtain ⟨b, hb, hq⟩ := ih (i + 1) (by omega)
        rw [show ((i + 1 : Nat) : Int) = (i : Int) + 1 from by omega] at hb
        have hr := rd55 L i (by omega)
        by_cases h2 : (L[i].f0.size : Int) > 2147483647
        · exact ⟨false, (by refine Ev.step (fun k => by rw [laws_zzFits3.l0]) ?_; exact ev_ifp (by omega) (ev_ifp (by omega) (ev_ifp (by omega) (ev_bind (a := false) (ev_const (by rw [hr, laws_zzFits4.f, if_pos h2])) (ev_ifn Bool.false_ne_true (Ev.now _)))))), fun h => by cases h⟩
        · by_cases h3 : (L[i].f1.size : Int) > 2147483647
          · exact ⟨false, (by refine Ev.step (fun k => by rw [laws_zzFits3.l0]) ?_; exact ev_ifp (by omega) (ev_ifp (by omega) (ev_ifp (by omega) (ev_bind (a := false) (ev_const (by rw [hr, laws_zzFits4.f, if_neg h2, if_pos h3])) (ev_ifn Bool.false_ne_true (Ev.now _)))))), fun h => by cases h⟩
          · refine ⟨b, (by refine Ev.step (fun k => by rw [laws_zzFits3.l0, w64 (x := (i : Int) + 1) (by omega) (by omega)]) ?_; exact ev_ifp (by omega) (ev_ifp (by omega) (ev_ifp (by omega) (ev_bind (a := true) (ev_const (by rw [hr, laws_zzFits4.f, if_neg h2, if_neg h3])) (ev_ifp rfl hb))))), fun hbt j hj hij => ?_⟩
            rcases Nat.eq_or_lt_of_le hij with rfl | hlt
            · omega
            · exact hq hbt j hj hlt
    obtain ⟨b, hb, hq⟩ := h L.length 0 (by omega)
    refine ⟨b, ev_ifn hl hb, fun hbt => ⟨by omega, fun x hx => ?_⟩⟩
    obtain ⟨j, hj, rfl⟩ := List.getElem_of_mem hx
    exact hq hbt j hj (Nat.zero_le _)
theorem picks_tells (L : List S55) (t : ByteArray) (hL : L.length ≤ 2147483647) (hx : ∀ x ∈ L, x.f0.size ≤ 2147483647) (ht : t.size ≤ 2147483647) : ∃ b, Ev (fun k => laws_picks7.f k L t) b ∧ (b = true → L.length ≤ 20 ∧ (∀ x ∈ L, Asc x.f0 ∧ x.f0.size ≤ 1000) ∧ Asc t ∧ t.size ≤ 1000) := by
  unfold laws_picks7.f
  have h : ∀ d i : Nat, i + d = L.length → ∃ b, Ev (fun k => laws_picks7.l0 k L t (i : Int)) b ∧ (b = true → L.length ≤ 20 ∧ (Asc t ∧ t.size ≤ 1000) ∧ ∀ j (hj : j < L.length), i ≤ j → Asc L[j].f0 ∧ L[j].f0.size ≤ 1000) := by
    intro d
    induction d with
    | zero =>
      intro i hi
      by_cases hl : (L.length : Int) ≤ 20
      · obtain ⟨b, hb, hq⟩ := ascii_tells t (by omega)
        cases b with
        | false => exact ⟨false, (by refine Ev.step (fun k => by rw [laws_picks7.l0]) ?_; exact ev_ifn (by omega) (ev_ifp hl (ev_bind hb (ev_ifn Bool.false_ne_true (Ev.now _))))), fun h => by cases h⟩
        | true => exact ⟨decide ((t.size : Int) ≤ 60), (by refine Ev.step (fun k => by rw [laws_picks7.l0]) ?_; exact ev_ifn (by omega) (ev_ifp hl (ev_bind hb (ev_ifp rfl (Ev.now _))))), fun _ => ⟨by omega, ⟨(hq rfl).2, (hq rfl).1⟩, fun j hj hij => by omega⟩⟩
      · exact ⟨false, (by refine Ev.step (fun k => by rw [laws_picks7.l0]) ?_; exact ev_ifn (by omega) (ev_ifn hl (Ev.now _))), fun h => by cases h⟩
    | succ d ih =>
      intro i hi
      obtain ⟨b, hb, hq⟩ := ih (i + 1) (by omega)
      rw [show ((i + 1 : Nat) : Int) = (i : Int) + 1 from by omega] at hb
      have hr := rd55 L i (by omega)
      have hxi := hx L[i] (List.getElem_mem _)
      obtain ⟨c, hc, hcq⟩ := ascii_tells L[i].f0 (by omega)
      cases c with
      | false => exact ⟨false, (by refine Ev.step (fun k => by rw [laws_picks7.l0, hr]) ?_; exact ev_ifp (by omega) (ev_ifp (by omega) (ev_bind hc (ev_ifn Bool.false_ne_true (Ev.now _))))), fun h => by cases h⟩
      | true =>
        by_cases h2 : (L[i].f0.size : Int) > 60
        · exact ⟨false, (by refine Ev.step (fun k => by rw [laws_picks7.l0, hr]) ?_; exact ev_ifp (by omega) (ev_ifp (by omega) (ev_bind hc (ev_ifp rfl (ev_ifp h2 (Ev.now _)))))), fun h => by cases h⟩
        · by_cases h3 : (L[i].f1.size : Int) > 60
          · exact ⟨false, (by refine Ev.step (fun k => by rw [laws_picks7.l0, hr]) ?_; exact ev_ifp (by omega) (ev_ifp (by omega) (ev_bind hc (ev_ifp rfl (ev_ifn h2 (ev_ifp h3 (Ev.now _))))))), fun h => by cases h⟩
          · refine ⟨b, (by refine Ev.step (fun k => by rw [laws_picks7.l0, hr, w64 (x := (i : Int) + 1) (by omega) (by omega)]) ?_; exact ev_ifp (by omega) (ev_ifp (by omega) (ev_bind hc (ev_ifp rfl (ev_ifn h2 (ev_ifn h3 hb)))))), fun hbt => ⟨(hq hbt).1, (hq hbt).2.1, fun j hj hij => ?_⟩⟩
            rcases Nat.eq_or_lt_of_le hij with rfl | hlt
            · exact ⟨(hcq rfl).2, (hcq rfl).1⟩
            · exact (hq hbt).2.2 j hj hlt
  obtain ⟨b, hb, hq⟩ := h L.length 0 (by omega)
  refine ⟨b, hb, fun hbt => ⟨(hq hbt).1, fun x hx => ?_, (hq hbt).2.1⟩⟩
  obtain ⟨j, hj, rfl⟩ := List.getElem_of_mem hx
  exact (hq hbt).2.2 j hj (Nat.zero_le _)
/-! ### the tests -/
def tst (kk : Int) (s t : List Int) : Bool := if kk = 1 then t.isPrefixOf s else if kk = 2 then t.isSuffixOf s else if kk = 3 then hasFrom s t (s.length + 1) else t.isSublist s
theorem pre_map (f g : Int → Int) : ∀ (t s : List Int), (∀ x ∈ t, ∀ y ∈ s, (f x == f y) = (g x == g y)) → (t.map f).isPrefixOf (s.map f) = (t.map g).isPrefixOf (s.map g)
  | [], s, _ => by simp
  | x :: t, [], _ => by simp [List.isPrefixOf]
  | x :: t, y :: s, h => by
    simp only [List.map_cons, List.isPrefixOf]
    rw [h x List.mem_cons_self y List.mem_cons_self, pre_map f g t s fun a ha b hb => h a (List.mem_cons_of_mem _ ha) b (List.mem_cons_of_mem _ hb)]
theorem suf_map (f g : Int → Int) (t s : List Int) (h : ∀ x ∈ t, ∀ y ∈ s, (f x == f y) = (g x == g y)) : (t.map f).isSuffixOf (s.map f) = (t.map g).isSuffixOf (s.map g) := by
  unfold List.isSuffixOf
  rw [← List.map_reverse, ← List.map_reverse, ← List.map_reverse, ← List.map_reverse]
  exact pre_map f g _ _ fun x hx y hy => h x (List.mem_reverse.1 hx) y (List.mem_reverse.1 hy)
theorem has_map (f g : Int → Int) (t s : List Int) (h : ∀ x ∈ t, ∀ y ∈ s, (f x == f y) = (g x == g y)) : ∀ b, hasFrom (s.map f) (t.map f) b = hasFrom (s.map g) (t.map g) b
  | 0 => rfl
  | b + 1 => by
    unfold hasFrom
    rw [has_map f g t s h b, List.length_map, List.length_map, ← List.map_drop, ← List.map_drop, pre_map f g t _ fun x hx y hy => h x hx y (List.mem_of_mem_drop hy)]
theorem sub_map (f g : Int → Int) : ∀ (s t : List Int), (∀ x ∈ t, ∀ y ∈ s, (f x == f y) = (g x == g y)) → (t.map f).isSublist (s.map f) = (t.map g).isSublist (s.map g)
  | s, [], _ => by simp [List.isSublist]
  | [], x :: t, _ => by simp only [List.map_cons, List.map_nil, sub_none]
  | y :: s, x :: t, h => by
    have e1 := sub_map f g s t fun a ha b hb => h a (List.mem_cons_of_mem _ ha) b (List.mem_cons_of_mem _ hb)
    have e2 := sub_map f g s (x :: t) fun a ha b hb => h a ha b (List.mem_cons_of_mem _ hb)
    simp only [List.map_cons] at e2 ⊢
    rw [sub_some, sub_some, h x List.mem_cons_self y List.mem_cons_self, e1, e2]
theorem tst_map (f g : Int → Int) (kk : Int) (s t : List Int) (h : ∀ x ∈ t, ∀ y ∈ s, (f x == f y) = (g x == g y)) : tst kk (s.map f) (t.map f) = tst kk (s.map g) (t.map g) := by
  unfold tst
  rw [pre_map f g t s h, suf_map f g t s h, List.length_map, List.length_map, has_map f g t s h, sub_map f g s t h]
theorem tst_nil (kk : Int) (s : List Int) : tst kk s [] = true := by
  unfold tst hasFrom
  simp [List.isPrefixOf, List.isSuffixOf, List.isSublist]
def upN (x : Int) : Int := if 97 ≤ x ∧ x ≤ 122 then x - 32 else x
theorem fold_same (x y : Int) (hx : 0 ≤ x ∧ x < 128) (hy : 0 ≤ y ∧ y < 128) : (upN x == upN y) = (lowN x == lowN y) := by
  rw [Bool.eq_iff_iff, beq_iff_eq, beq_iff_eq]
  unfold upN lowN
  split <;> split <;> split <;> split <;> omega
theorem asc_mem {s : ByteArray} (h : Asc s) (x : Int) (hx : x ∈ ints s) : 0 ≤ x ∧ x < 128 := by
  unfold ints at hx
  obtain ⟨b, hb, rfl⟩ := List.mem_map.1 hx
  have := h b hb
  omega
theorem upper_nat (b : UInt8) : ((Lib.upperB b).toNat : Int) = upN (b.toNat : Int) := by
  unfold Lib.upperB Lib.isLowerB upN
  have e1 : (97 ≤ b) ↔ 97 ≤ b.toNat := by rw [UInt8.le_iff_toNat_le]; rfl
  have e2 : (b ≤ 122) ↔ b.toNat ≤ 122 := by rw [UInt8.le_iff_toNat_le]; rfl
  by_cases h1 : 97 ≤ b.toNat ∧ b.toNat ≤ 122
  · rw [if_pos (by simp only [Bool.and_eq_true, decide_eq_true_eq]; exact ⟨e1.2 h1.1, e2.2 h1.2⟩), if_pos (by omega), UInt8.toNat_sub_of_le b 32 (by rw [UInt8.le_iff_toNat_le]; show 32 ≤ b.toNat; omega)]
    show ((b.toNat - 32 : Nat) : Int) = _
    omega
  · rw [if_neg (by simp only [Bool.and_eq_true, decide_eq_true_eq]; rw [e1, e2]; exact h1), if_neg (by omega)]
theorem ints_up (s : ByteArray) : ints (upA s) = (ints s).map upN := by
  unfold ints upA Lib.toUpperA
  show List.map _ (List.map Lib.upperB s.data.toList) = _
  rw [List.map_map, List.map_map]
  refine List.map_congr_left fun b _ => ?_
  exact upper_nat b
theorem up_size (s : ByteArray) : (upA s).size = s.size := by rw [← ints_length, ints_up, List.length_map, ints_length]
theorem up_asc {s : ByteArray} (h : Asc s) : Asc (upA s) := by
  intro b hb
  have h1 : (b.toNat : Int) ∈ ints (upA s) := by unfold ints; exact List.mem_map.2 ⟨b, hb, rfl⟩
  rw [ints_up] at h1
  obtain ⟨x, hx, he⟩ := List.mem_map.1 h1
  have h2 := asc_mem h x hx
  unfold upN at he
  split at he <;> omega
theorem ints_str (l : List Int) (h : ∀ x ∈ l, 0 ≤ x ∧ x < 256) : ints (strOfNums l) = l := by
  unfold ints strOfNums
  show List.map _ (List.map _ l) = l
  rw [List.map_map]
  conv => rhs; rw [← List.map_id l]
  refine List.map_congr_left fun x hx => ?_
  have h1 := h x hx
  show ((UInt8.ofNat x.toNat).toNat : Int) = x
  rw [UInt8.toNat_ofNat']
  omega
theorem ints_low {s : ByteArray} (h : Asc s) : ints (strOfNums ((ints s).map lowN)) = (ints s).map lowN := by
  refine ints_str _ fun x hx => ?_
  obtain ⟨y, hy, rfl⟩ := List.mem_map.1 hx
  have h1 := asc_mem h y hy
  unfold lowN
  split <;> omega
theorem low_size (s : ByteArray) : (strOfNums ((ints s).map lowN)).size = s.size := by rw [strOfNums_size, List.length_map, ints_length]
theorem beq_ints (a b : ByteArray) : (a.toList == b.toList) = decide (ints a = ints b) := by
  rw [Bool.eq_iff_iff, beq_iff_eq, decide_eq_true_eq, ByteArray.toList_eq, ByteArray.toList_eq]
  exact ⟨fun h => by rw [str_ext h], fun h => by rw [ints_inj h]⟩
/-! ### the reference -/
theorem pass_has (s t : ByteArray) (hs : s.size ≤ 1000) (ht : t.size ≤ 1000) : ∀ (b i : Nat), s.size + 1 = i + b → Ev (fun k => spec_Passes.l0 k s t (i : Int)) (hasFrom (ints s) (ints t) b)
  | 0, i, he => (by refine Ev.step (fun k => by rw [spec_Passes.l0, w64 (by omega) (by omega)]) ?_; exact ev_ifn (by omega) (Ev.now _))
  | b + 1, i, he => by
    have hd : s.size - b = i := by omega
    by_cases hl : (i : Int) + t.size ≤ s.size
    · have hx : ints (s.extract ((i : Int)).toNat ((i : Int) + t.size).toNat) = ((ints s).drop i).take (ints t).length := by
        rw [ints_extract, ints_length]
        congr 1 <;> omega
      by_cases he2 : (s.extract ((i : Int)).toNat ((i : Int) + t.size).toNat).toList = t.toList
      · have h3 : s.extract ((i : Int)).toNat ((i : Int) + t.size).toNat = t := by
          rw [ByteArray.toList_eq, ByteArray.toList_eq] at he2
          exact str_ext he2
        have h4 : (ints t).isPrefixOf ((ints s).drop i) = true := by rw [prefix_take, ← hx, h3]
        refine Ev.step (fun k => by rw [spec_Passes.l0, w64 (x := (i : Int) + t.size) (by omega) (by omega)]) ?_
        exact ev_ifp hl (ev_ifp (by omega) (ev_ifp (by omega) (ev_ifp he2 (ev_some (by unfold hasFrom; rw [ints_length, hd, h4, Bool.true_or])))))
      · have h4 : (ints t).isPrefixOf ((ints s).drop i) = false := by
          rw [Bool.eq_false_iff]
          intro h5
          rw [prefix_take, ← hx] at h5
          exact he2 (by rw [ints_inj h5])
        have h6 : hasFrom (ints s) (ints t) (b + 1) = hasFrom (ints s) (ints t) b := by rw [hasFrom, ints_length, hd, h4, Bool.false_or]
        rw [h6]
        refine Ev.step (fun k => by rw [spec_Passes.l0, w64 (x := (i : Int) + t.size) (by omega) (by omega), w64 (x := (i : Int) + 1) (by omega) (by omega)]) ?_
        exact ev_ifp hl (ev_ifp (by omega) (ev_ifp (by omega) (ev_ifn he2 (pass_has s t hs ht b (i + 1) (by omega)))))
    · refine Ev.step (fun k => by rw [spec_Passes.l0, w64 (x := (i : Int) + t.size) (by omega) (by omega)]) ?_
      refine ev_ifn hl (ev_some ?_)
      rw [has_long (ints s) (ints t) (b + 1) (by rw [ints_length]; omega)]
theorem pass_sub (s t : ByteArray) (hs : s.size ≤ 1000) (ht : t.size ≤ 1000) : ∀ (b i j : Nat), s.size = i + b → j ≤ t.size → Ev (fun k => spec_Passes.l1 k s t (j : Int) (i : Int)) (((ints t).drop j).isSublist ((ints s).drop i))
  | 0, i, j, he, hj => by
    refine Ev.step (fun k => by rw [spec_Passes.l1]) ?_
    refine ev_ifn (by omega) (Ev.step (fun k => by rw [spec_Passes.j3]) (ev_ifn Bool.false_ne_true (ev_some ?_)))
    rw [List.drop_of_length_le (l := ints s) (by rw [ints_length]; omega)]
    by_cases h : j < t.size
    · rw [drop_at (ints t) j (by rw [ints_length]; exact h), sub_none]
      exact beq_eq_false_iff_ne.2 (by omega)
    · rw [List.drop_of_length_le (l := ints t) (by rw [ints_length]; omega), List.isSublist]
      exact beq_iff_eq.2 (by omega)
  | b + 1, i, j, he, hj => by
    by_cases h : j < t.size
    · have hc : ∀ k, spec_Passes.l1 (k + 1) s t (j : Int) (i : Int) = spec_Passes.j3 k s t (j : Int) (i : Int) true := fun k => by
        rw [spec_Passes.l1, if_pos (by omega), show decide ((j : Int) < (t.size : Int)) = true from decide_eq_true (by omega)]
      have e1 : bt s (i : Int) = (ints s).getD i 0 := by rw [bt_ints s i (by omega)]; simp [List.getD, List.getElem?_eq_getElem, ints_length, show i < s.size by omega]
      have e2 : bt t (j : Int) = (ints t).getD j 0 := by rw [bt_ints t j h]; simp [List.getD, List.getElem?_eq_getElem, ints_length, h]
      rw [drop_at (ints t) j (by rw [ints_length]; exact h), drop_at (ints s) i (by rw [ints_length]; omega), sub_some]
      refine Ev.step hc (Ev.step (fun k => by rw [spec_Passes.j3, e1, e2, w64 (x := (j : Int) + 1) (by omega) (by omega), w64 (x := (i : Int) + 1) (by omega) (by omega)]) (ev_ifp rfl (ev_ifp (by omega) (ev_ifp (by omega) (ev_ifp (by omega) (ev_ifp (by omega) ?_))))))
      by_cases hx : (ints s).getD i 0 = (ints t).getD j 0
      · rw [if_pos (by rw [hx]; exact beq_self_eq_true _)]
        exact ev_ifp hx (pass_sub s t hs ht b (i + 1) (j + 1) (by omega) (by omega))
      · rw [if_neg (by rw [beq_iff_eq]; exact fun h => hx h.symm), ← drop_at (ints t) j (by rw [ints_length]; exact h)]
        exact ev_ifn hx (pass_sub s t hs ht b (i + 1) j (by omega) hj)
    · have hc : ∀ k, spec_Passes.l1 (k + 1) s t (j : Int) (i : Int) = spec_Passes.j3 k s t (j : Int) (i : Int) false := fun k => by
        rw [spec_Passes.l1, if_pos (by omega), show decide ((j : Int) < (t.size : Int)) = false from decide_eq_false (by omega)]
      refine Ev.step hc (Ev.step (fun k => by rw [spec_Passes.j3]) (ev_ifn Bool.false_ne_true (ev_some ?_)))
      rw [List.drop_of_length_le (l := ints t) (by rw [ints_length]; omega), List.isSublist]
      exact beq_iff_eq.2 (by omega)
theorem passes_ev (kk : Int) (s t : ByteArray) (hk : kk = 1 ∨ kk = 2 ∨ kk = 3 ∨ kk = 4) (hs : s.size ≤ 1000) (ht : t.size ≤ 1000) : Ev (fun k => spec_Passes.j0 k kk s t) (tst kk (ints s) (ints t)) := by
  rcases hk with rfl | rfl | rfl | rfl
  · refine Ev.step (fun k => by rw [spec_Passes.j0]) ?_
    refine ev_ifp rfl ?_
    unfold tst
    rw [if_pos rfl]
    by_cases h : (s.size : Int) ≥ (t.size : Int)
    · refine ev_ifp h (ev_ifp (by omega) (ev_ifp (by omega) (ev_some ?_)))
      rw [beq_ints, ints_extract, Bool.eq_iff_iff, decide_eq_true_eq, prefix_take, ints_length]
      simp
    · refine ev_ifn h (ev_some ?_)
      symm
      rw [Bool.eq_false_iff]
      intro h5
      rw [prefix_take] at h5
      have h6 := congrArg List.length h5
      rw [List.length_take, ints_length, ints_length] at h6
      omega
  · refine Ev.step (fun k => by rw [spec_Passes.j0]) ?_
    refine ev_ifn (by omega) (ev_ifp rfl ?_)
    rw [show tst 2 (ints s) (ints t) = (ints t).isSuffixOf (ints s) from rfl]
    by_cases h : (s.size : Int) ≥ (t.size : Int)
    · rw [w64 (by omega) (by omega)]
      refine ev_ifp h (ev_ifp (by omega) (ev_ifp (by omega) (ev_some ?_)))
      rw [beq_ints, ints_extract, Bool.eq_iff_iff, decide_eq_true_eq, List.isSuffixOf_iff_suffix, List.suffix_iff_eq_drop, ints_length, ints_length, List.take_of_length_le (by rw [List.length_drop, ints_length]; omega), show ((s.size : Int) - (t.size : Int)).toNat = s.size - t.size by omega]
      exact eq_comm
    · refine ev_ifn h (ev_some ?_)
      symm
      rw [Bool.eq_false_iff]
      intro h5
      rw [List.isSuffixOf_iff_suffix] at h5
      have h6 := h5.length_le
      rw [ints_length, ints_length] at h6
      omega
  · refine Ev.step (fun k => by rw [spec_Passes.j0]) ?_
    refine ev_ifn (by omega) (ev_ifn (by omega) (ev_ifp rfl ?_))
    rw [show tst 3 (ints s) (ints t) = hasFrom (ints s) (ints t) ((ints s).length + 1) from rfl, ints_length]
    exact pass_has s t hs ht (s.size + 1) 0 (by omega)
  · refine Ev.step (fun k => by rw [spec_Passes.j0]) ?_
    refine ev_ifn (by omega) (ev_ifn (by omega) (ev_ifn (by omega) ?_))
    rw [show tst 4 (ints s) (ints t) = (ints t).isSublist (ints s) from rfl]
    exact pass_sub s t hs ht s.size 0 0 (by omega) (Nat.zero_le _)
def fo (any : Bool) (l : List Int) : List Int := if any = true then l.map upN else l
theorem passes_tells (kk : Int) (s t : ByteArray) (any : Bool) (hk : kk = 1 ∨ kk = 2 ∨ kk = 3 ∨ kk = 4) (hs : s.size ≤ 1000) (ht : t.size ≤ 1000) (hsa : Asc s) (hta : Asc t) : Ev (fun k => spec_Passes.f k kk s t any) (tst kk (fo any (ints s)) (fo any (ints t))) := by
  unfold spec_Passes.f fo
  cases any with
  | false => simpa using passes_ev kk s t hk hs ht
  | true =>
    rw [if_pos rfl, if_pos rfl, tst_map upN lowN kk _ _ fun x hx y hy => fold_same x y (asc_mem hta x hx) (asc_mem hsa y hy)]
    have h := passes_ev kk (strOfNums ((ints s).map lowN)) (strOfNums ((ints t).map lowN)) hk (by rw [low_size]; exact hs) (by rw [low_size]; exact ht)
    rw [ints_low hsa, ints_low hta] at h
    refine ev_ifp rfl (ev_bind (a := strOfNums ((ints s).map lowN)) (ev_const ?_) (ev_bind (a := strOfNums ((ints t).map lowN)) (ev_const ?_) h))
    · unfold spec_low.f; rw [if_pos (by omega)]
    · unfold spec_low.f; rw [if_pos (by omega)]
/-! ### the filters -/
theorem fil_ev (pass : ByteArray → ByteArray → Option Bool) (T : List Int → List Int → Bool) (hp : ∀ s t, Asc s → Asc t → s.size ≤ 1000 → t.size ≤ 1000 → pass s t = some (T (ints s) (ints t))) (hT0 : ∀ s, T s [] = true) (l : List S96) (t : ByteArray) (any : Bool)
    (hl : ∀ p ∈ l, Asc p.f0 ∧ p.f0.size ≤ 1000) (hL : l.length ≤ 1000) (hta : Asc t) (ht : t.size ≤ 1000) : Ev (fun k => goprompt_filterSuggestions.f pass k l t any) (l.filter fun p => T (fo any (ints p.f0)) (fo any (ints t))) := by
  have hloop : ∀ (t' : ByteArray), Asc t' → t'.size ≤ 1000 → ints t' = fo any (ints t) → ∀ (d i : Nat), i + d = l.length → ∀ acc : List S96, acc.length ≤ i → Ev (fun k => goprompt_filterSuggestions.l0 pass k l t' any acc (l.length : Int) (i : Int)) (acc ++ (l.drop i).filter fun p => T (fo any (ints p.f0)) (fo any (ints t))) := by
    intro t' hta' ht' he d
    induction d with
    | zero =>
      intro i hi acc ha
      rw [List.drop_of_length_le (by omega)]
      refine Ev.step (fun k => by rw [goprompt_filterSuggestions.l0]) ?_
      exact ev_ifn (by omega) (ev_some (by simp))
    | succ d ih =>
      intro i hi acc ha
      have hil : i < l.length := by omega
      have hr := rd96 l i hil
      obtain ⟨hpa, hps⟩ := hl l[i] (List.getElem_mem _)
      have hd : (l.drop i).filter (fun p => T (fo any (ints p.f0)) (fo any (ints t))) = (if T (fo any (ints l[i].f0)) (fo any (ints t)) = true then [l[i]] else []) ++ (l.drop (i + 1)).filter (fun p => T (fo any (ints p.f0)) (fo any (ints t))) := by
        rw [List.drop_eq_getElem_cons hil, List.filter_cons]
        split <;> rfl
      rw [hd]
      have hgo : ∀ b : Bool, T (fo any (ints l[i].f0)) (fo any (ints t)) = b → Ev (fun k => if b = true then (if acc.length < 4398046511104 then goprompt_filterSuggestions.l0 pass k l t' any (acc ++ [(⟨l[i].f0, l[i].f1⟩ : S96)]) (l.length : Int) (wrap64 ((i : Int) + 1)) else none) else goprompt_filterSuggestions.l0 pass k l t' any acc (l.length : Int) (wrap64 ((i : Int) + 1))) (acc ++ ((if T (fo any (ints l[i].f0)) (fo any (ints t)) = true then [l[i]] else []) ++ (l.drop (i + 1)).filter (fun p => T (fo any (ints p.f0)) (fo any (ints t))))) := by
        intro b hb
        rw [hb, w64 (by omega) (by omega), show (i : Int) + 1 = ((i + 1 : Nat) : Int) by omega]
        cases b with
        | true =>
          have := ih (i + 1) (by omega) (acc ++ [l[i]]) (by simp; omega)
          rw [List.append_assoc] at this
          exact ev_ifp rfl (ev_ifp (by omega) this)
        | false => exact ev_ifn (by simp) (by simpa using ih (i + 1) (by omega) acc (by omega))
      cases any with
      | true =>
        have e2 := hp (upA l[i].f0) t' (up_asc hpa) hta' (by rw [up_size]; exact hps) ht'
        rw [he, ints_up] at e2
        have hup : strings_ToUpper.f l[i].f0 = some (upA l[i].f0) := by
          unfold strings_ToUpper.f
          rw [if_pos ⟨by omega, hpa⟩]
        refine Ev.step (fun k => by rw [goprompt_filterSuggestions.l0, hr]) ?_
        refine ev_ifp (by omega) (ev_ifp (by omega) (ev_ifp (by omega) (ev_ifp rfl (ev_bind (ev_const hup) (ev_bind (ev_const e2) ?_)))))
        exact hgo _ rfl
      | false =>
        have e2 := hp l[i].f0 t' hpa hta' hps ht'
        rw [he] at e2
        refine Ev.step (fun k => by rw [goprompt_filterSuggestions.l0, hr]) ?_
        refine ev_ifp (by omega) (ev_ifp (by omega) (ev_ifp (by omega) (ev_ifn (by simp) (ev_bind (ev_const e2) ?_))))
        exact hgo _ rfl
  unfold goprompt_filterSuggestions.f
  by_cases h0 : t.toList = ([] : List UInt8)
  · have hte : ints t = [] := by
      unfold ints
      rw [ByteArray.toList_eq] at h0
      rw [h0]
      rfl
    refine ev_ifp h0 (ev_some ?_)
    have hfe : fo any [] = [] := by unfold fo; split <;> rfl
    rw [List.filter_eq_self.2 fun p _ => by rw [hte, hfe]; exact hT0 _]
  · refine ev_ifn h0 ?_
    cases any with
    | true =>
      have hup : strings_ToUpper.f t = some (upA t) := by
        unfold strings_ToUpper.f
        rw [if_pos ⟨by omega, hta⟩]
      refine ev_ifp rfl (ev_bind (ev_const hup) (Ev.step (fun k => by rw [goprompt_filterSuggestions.j0, if_pos (by omega)]) ?_))
      exact hloop (upA t) (up_asc hta) (by rw [up_size]; exact ht) (by rw [ints_up]; rfl) l.length 0 (by omega) [] (Nat.le_refl _)
    | false =>
      refine ev_ifn (by simp) (Ev.step (fun k => by rw [goprompt_filterSuggestions.j0, if_pos (by omega)]) ?_)
      exact hloop t hta ht rfl l.length 0 (by omega) [] (Nat.le_refl _)
theorem pre_ints : ∀ (t s : List UInt8), t.isPrefixOf s = (t.map fun b => (b.toNat : Int)).isPrefixOf (s.map fun b => (b.toNat : Int))
  | [], s => by simp
  | x :: t, [] => by simp [List.isPrefixOf]
  | x :: t, y :: s => by
    simp only [List.map_cons, List.isPrefixOf]
    rw [pre_ints t s]
    congr 1
    rw [Bool.eq_iff_iff, beq_iff_eq, beq_iff_eq]
    exact ⟨fun h => by rw [h], fun h => UInt8.toNat_inj.1 (by omega)⟩
theorem suf_ints (t s : List UInt8) : t.isSuffixOf s = (t.map fun b => (b.toNat : Int)).isSuffixOf (s.map fun b => (b.toNat : Int)) := by
  unfold List.isSuffixOf
  rw [← List.map_reverse, ← List.map_reverse]
  exact pre_ints _ _
def passOf (kk : Int) : ByteArray → ByteArray → Option Bool := if kk = 1 then passP else if kk = 2 then passS else if kk = 3 then passC else passF
theorem passOf_tells (kk : Int) (hk : kk = 1 ∨ kk = 2 ∨ kk = 3 ∨ kk = 4) (s t : ByteArray) (hsa : Asc s) (hta : Asc t) (hs : s.size ≤ 1000) (ht : t.size ≤ 1000) : passOf kk s t = some (tst kk (ints s) (ints t)) := by
  rcases hk with rfl | rfl | rfl | rfl
  · rw [show passOf 1 = passP from rfl, show tst 1 (ints s) (ints t) = (ints t).isPrefixOf (ints s) from rfl]
    unfold passP Lib.hasPrefix
    rw [pre_ints]
    rfl
  · rw [show passOf 2 = passS from rfl, show tst 2 (ints s) (ints t) = (ints t).isSuffixOf (ints s) from rfl]
    unfold passS Lib.hasSuffix
    rw [if_pos (by omega), suf_ints]
    rfl
  · rw [show passOf 3 = passC from rfl, show tst 3 (ints s) (ints t) = hasFrom (ints s) (ints t) ((ints s).length + 1) from rfl]
    unfold passC
    rw [if_pos (by omega), ints_length]
  · rw [show passOf 4 = passF from rfl, show tst 4 (ints s) (ints t) = (ints t).isSublist (ints s) from rfl]
    unfold passF
    rw [if_pos ⟨hsa, hta, by omega, by omega⟩]
/-! ### impl.Filtered -/
def c96 (p : S55) : S96 := ⟨p.f0, p.f1⟩
def c55 (p : S96) : S55 := ⟨p.f0, p.f1⟩
theorem back_ev (l : List S96) (hL : l.length ≤ 1000) : Ev (fun k => impl_Filtered.j1 k l) (l.map c55) := by
  have h : ∀ (d i : Nat), i + d = l.length → Ev (fun k => impl_Filtered.l1 k ((l.take i).map c55) l (l.length : Int) (i : Int)) (l.map c55) := by
    intro d
    induction d with
    | zero =>
      intro i hi
      rw [List.take_of_length_le (by omega)]
      refine Ev.step (fun k => by rw [impl_Filtered.l1]) ?_
      exact ev_ifn (by omega) (Ev.now _)
    | succ d ih =>
      intro i hi
      have hil : i < l.length := by omega
      have hr := rd96 l i hil
      have h2 := ih (i + 1) (by omega)
      rw [List.take_succ_eq_append_getElem hil, List.map_append, show ((i + 1 : Nat) : Int) = (i : Int) + 1 by omega] at h2
      refine Ev.step (fun k => by rw [impl_Filtered.l1, hr, w64 (x := (i : Int) + 1) (by omega) (by omega)]) ?_
      exact ev_ifp (by omega) (ev_ifp (by omega) (ev_ifp (by omega) (ev_ifp (by simp; omega) h2)))
  refine Ev.step (fun k => by rw [impl_Filtered.j1]) ?_
  exact h l.length 0 (by omega)
theorem filt_ev (kk : Int) (hk : kk = 1 ∨ kk = 2 ∨ kk = 3 ∨ kk = 4) (l : List S55) (t : ByteArray) (any : Bool) (hl : ∀ p ∈ l, Asc p.f0 ∧ p.f0.size ≤ 1000) (hL : l.length ≤ 1000) (hta : Asc t) (ht : t.size ≤ 1000) :
    Ev (fun k => impl_Filtered.f k kk l t any) (l.filter fun p => tst kk (fo any (ints p.f0)) (fo any (ints t))) := by
  have hF := fil_ev (passOf kk) (tst kk) (fun s t h1 h2 h3 h4 => passOf_tells kk hk s t h1 h2 h3 h4) (tst_nil kk) (l.map c96) t any (fun p hp => by obtain ⟨q, hq, rfl⟩ := List.mem_map.1 hp; exact hl q hq) (by simpa using hL) hta ht
  have hback := back_ev ((l.map c96).filter fun p => tst kk (fo any (ints p.f0)) (fo any (ints t))) (Nat.le_trans (List.length_filter_le _ _) (by simpa using hL))
  have e : ((l.map c96).filter fun p => tst kk (fo any (ints p.f0)) (fo any (ints t))).map c55 = l.filter fun p => tst kk (fo any (ints p.f0)) (fo any (ints t)) := by
    rw [List.filter_map, List.map_map]
    show List.map id _ = _
    rw [List.map_id]
    rfl
  rw [e] at hback
  have h : ∀ (d i : Nat), i + d = l.length → Ev (fun k => impl_Filtered.l0 k kk t any ((l.take i).map c96) l (l.length : Int) (i : Int)) (l.filter fun p => tst kk (fo any (ints p.f0)) (fo any (ints t))) := by
    intro d
    induction d with
    | zero =>
      intro i hi
      rw [List.take_of_length_le (by omega)]
      refine Ev.step (fun k => by rw [impl_Filtered.l0]) ?_
      refine ev_ifn (by omega) ?_
      rcases hk with rfl | rfl | rfl | rfl
      · exact ev_ifp rfl (ev_bind hF hback)
      · exact ev_ifn (by omega) (ev_ifp rfl (ev_bind hF hback))
      · exact ev_ifn (by omega) (ev_ifn (by omega) (ev_ifp rfl (ev_bind hF hback)))
      · exact ev_ifn (by omega) (ev_ifn (by omega) (ev_ifn (by omega) (ev_ifp rfl (ev_bind hF hback))))
    | succ d ih =>
      intro i hi
      have hil : i < l.length := by omega
      have hr := rd55 l i hil
      have h2 := ih (i + 1) (by omega)
      rw [List.take_succ_eq_append_getElem hil, List.map_append, show ((i + 1 : Nat) : Int) = (i : Int) + 1 by omega] at h2
      refine Ev.step (fun k => by rw [impl_Filtered.l0, hr, w64 (x := (i : Int) + 1) (by omega) (by omega)]) ?_
      exact ev_ifp (by omega) (ev_ifp (by omega) (ev_ifp (by omega) (ev_ifp (by simp; omega) h2)))
  exact h l.length 0 (by omega)
/-! ### the law -/
theorem same_ev (l : List S55) (hL : l.length ≤ 1000) : Ev (fun k => laws_samePicks7.f k l l) true := by
  have h : ∀ (d i : Nat), i + d = l.length → Ev (fun k => laws_samePicks7.l0 k l l (i : Int)) true := by
    intro d
    induction d with
    | zero =>
      intro i hi
      refine Ev.step (fun k => by rw [laws_samePicks7.l0]) ?_
      exact ev_ifn (by omega) (Ev.step (fun k => by rw [laws_samePicks7.j1]) (ev_ifn Bool.false_ne_true (ev_some (by simp))))
    | succ d ih =>
      intro i hi
      have hc : ∀ k, laws_samePicks7.l0 (k + 1) l l (i : Int) = laws_samePicks7.j1 k l l (i : Int) true := fun k => by
        rw [laws_samePicks7.l0, if_pos (by omega), show decide ((i : Int) < (l.length : Int)) = true from decide_eq_true (by omega)]
      have h2 := ih (i + 1) (by omega)
      rw [show ((i + 1 : Nat) : Int) = (i : Int) + 1 by omega] at h2
      exact Ev.step hc ((by refine Ev.step (fun k => by rw [laws_samePicks7.j1, w64 (x := (i : Int) + 1) (by omega) (by omega)]) ?_; exact ev_ifp rfl (ev_ifp (by omega) (ev_ifp (by omega) (ev_ifp (by omega) (ev_ifn (by simp) h2))))))
  exact h l.length 0 (by omega)
theorem want_ev (kk : Int) (hk : kk = 1 ∨ kk = 2 ∨ kk = 3 ∨ kk = 4) (l : List S55) (t : ByteArray) (any : Bool) (hl : ∀ p ∈ l, Asc p.f0 ∧ p.f0.size ≤ 1000) (hL : l.length ≤ 20) (hta : Asc t) (ht : t.size ≤ 1000) :
    ∀ (d i : Nat), i + d = l.length → Ev (fun k => laws_FnFiltered.l0 k l t any kk ((l.take i).filter fun p => tst kk (fo any (ints p.f0)) (fo any (ints t))) (i : Int)) true := by
  intro d
  induction d with
  | zero =>
    intro i hi
    rw [List.take_of_length_le (by omega)]
    refine Ev.step (fun k => by rw [laws_FnFiltered.l0]) ?_
    refine ev_ifn (by omega) (ev_bind (filt_ev kk hk l t any hl (by omega) hta ht) (ev_bind (same_ev _ (Nat.le_trans (List.length_filter_le _ _) (by omega))) (ev_ifp rfl ?_)))
    have ha : Asc (⟨#[97]⟩ : ByteArray) := by
      intro b hb
      simp at hb
      subst hb
      decide
    refine ev_bind (filt_ev kk hk [⟨⟨#[97]⟩, ⟨#[]⟩⟩] ⟨#[97]⟩ false (fun p hp => by simp at hp; subst hp; exact ⟨ha, by decide⟩) (by simp) ha (by decide)) (ev_some ?_)
    rcases hk with rfl | rfl | rfl | rfl <;> rfl
  | succ d ih =>
    intro i hi
    have hil : i < l.length := by omega
    have hr := rd55 l i hil
    obtain ⟨hpa, hps⟩ := hl l[i] (List.getElem_mem _)
    have h2 := ih (i + 1) (by omega)
    rw [List.take_succ_eq_append_getElem hil, List.filter_append, show ((i + 1 : Nat) : Int) = (i : Int) + 1 by omega] at h2
    refine Ev.step (fun k => by rw [laws_FnFiltered.l0, hr, w64 (x := (i : Int) + 1) (by omega) (by omega)]) ?_
    refine ev_ifp (by omega) (ev_ifp (by omega) (ev_bind (passes_tells kk l[i].f0 t any hk hps ht hpa hta) ?_))
    cases hb : tst kk (fo any (ints l[i].f0)) (fo any (ints t)) with
    | true =>
      have e : ([l[i]] : List S55).filter (fun p => tst kk (fo any (ints p.f0)) (fo any (ints t))) = [l[i]] := by simp [List.filter, hb]
      rw [e] at h2
      exact ev_ifp rfl (ev_ifp (Nat.lt_of_le_of_lt (List.length_filter_le _ _) (by rw [List.length_take]; omega)) h2)
    | false =>
      have e : ([l[i]] : List S55).filter (fun p => tst kk (fo any (ints p.f0)) (fo any (ints t))) = [] := by simp [List.filter, hb]
      rw [e, List.append_nil] at h2
      exact ev_ifn Bool.false_ne_true h2
theorem FnFiltered : laws_FnFiltered.Pure := by
  intro a0 l1 a2 a3 hwf _ _ _
  refine Ev.rounds ?_
  unfold laws_FnFiltered.f
  obtain ⟨b, hb, hq⟩ := fits_tells l1
  refine ev_bind hb ?_
  cases b with
  | false => exact ev_ifn Bool.false_ne_true ((by refine Ev.step (fun k => by rw [laws_FnFiltered.j0]) ?_; exact ev_ifp rfl (Ev.now _)))
  | true =>
    refine ev_ifp rfl ?_
    obtain ⟨hL, hx⟩ := hq rfl
    by_cases ht : (a2.size : Int) > 2147483647
    · rw [decide_eq_true ht]
      refine Ev.step (fun k => by rw [laws_FnFiltered.j0]) ?_
      exact ev_ifp rfl (Ev.now _)
    · rw [decide_eq_false ht]
      obtain ⟨c, hc, hcq⟩ := picks_tells l1 a2 hL hx (by omega)
      refine Ev.step (fun k => by rw [laws_FnFiltered.j0]) ?_
      refine ev_ifn Bool.false_ne_true (ev_bind hc ?_)
      cases c with
      | false => exact ev_ifn Bool.false_ne_true (Ev.now _)
      | true =>
        obtain ⟨h20, hl, hta, htz⟩ := hcq rfl
        have h0 : 0 ≤ a0 ∧ a0 ≤ 255 := by
          simp [Lit.wf] at hwf
          exact ⟨hwf.1, hwf.2⟩
        have hk : wrap64 (1 + wrap64 (Int.tmod a0 4)) = 1 ∨ wrap64 (1 + wrap64 (Int.tmod a0 4)) = 2 ∨ wrap64 (1 + wrap64 (Int.tmod a0 4)) = 3 ∨ wrap64 (1 + wrap64 (Int.tmod a0 4)) = 4 := by
          rw [Int.tmod_eq_emod_of_nonneg h0.1, w64 (x := a0 % 4) (by omega) (by omega), w64 (by omega) (by omega)]
          omega
        exact ev_ifp rfl (want_ev _ hk l1 a2 a3 hl h20 hta htz l1.length 0 (by omega))
end Go.Proofs.YthbdaoapjnofkaaDoor.Pure
