/- The blanks that all lines begin with go: the pure statement behind the law FnDedented; no condition. -/
import Derived.Test.YthbdaoapjnofkaaDoorPFnDedentedx3
import Derived.Test.YthbdaoapjnofkaaDoorXLines
namespace Go.Proofs.YthbdaoapjnofkaaDoor.Pure
open Go.RowKit Go.Proofs.YthbdaoapjnofkaaDoor.R Go.Proofs.YthbdaoapjnofkaaDoor.X Go.Proofs.YthbdaoapjnofkaaDoor.PFnDedented Go.Proofs.YthbdaoapjnofkaaDoor.H Go.Proofs.YthbdaoapjnofkaaDoorW.PrintWords Go.Proofs.YthbdaoapjnofkaaDoorW.PrintLast
set_option linter.unusedVariables false

theorem extract_size (s : ByteArray) (a b : Nat) (h : b ≤ s.size) : (s.extract a b).size = b - a := by
  rw [← ints_length, ints_extract, List.length_take, List.length_drop, ints_length]; omega
theorem lines_ind {C : List Int → Prop} (h1 : ∀ l, 10 ∉ l → C l) (h2 : ∀ a b, 10 ∉ a → C b → C (a ++ 10 :: b)) : ∀ l, C l := by
  suffices h : ∀ (n : Nat) (l : List Int), l.length ≤ n → C l from fun l => h l.length l (Nat.le_refl _)
  intro n
  induction n with
  | zero => intro l hl; have : l = [] := List.eq_nil_of_length_eq_zero (by omega); subst this; exact h1 [] (by simp)
  | succ n ih =>
    intro l hl
    by_cases hm : (10 : Int) ∈ l
    · obtain ⟨a, b, e, hna⟩ := List.eq_append_cons_of_mem hm
      rw [e]
      rw [e] at hl
      simp at hl
      exact h2 a b hna (ih b (by omega))
    · exact h1 l hm

/-- How many blanks a line begins with. -/
def insetL : List Int → Nat
  | [] => 0
  | x :: l => if x = 32 then insetL l + 1 else 0
theorem insetL_le : ∀ l, insetL l ≤ l.length
  | [] => by simp [insetL]
  | x :: l => by
    have := insetL_le l
    unfold insetL
    split <;> simp <;> omega
theorem inset_tells (x : ByteArray) (hs : x.size ≤ 1000000) : Ev (fun k => spec_inset.f k x) (insetL (ints x) : Int) := by
  unfold spec_inset.f
  suffices h : ∀ d i : Nat, i + d = x.size → Ev (fun k => spec_inset.l0 k x (i : Int)) (((i + insetL ((ints x).drop i) : Nat)) : Int) by
    have := h x.size 0 (by omega)
    simpa using this
  have hl := ints_length x
  intro d
  induction d with
  | zero =>
    intro i hi
    refine Ev.step (fun k => by rw [spec_inset.l0]) (ev_ifn (by omega) (ev_some ?_))
    rw [List.drop_of_length_le (by omega)]
    simp [insetL]
  | succ d ih =>
    intro i hi
    have h := ih (i + 1) (by omega)
    rw [show ((i + 1 : Nat) : Int) = (i : Int) + 1 from by omega] at h
    have hb := bt_list x i (by omega)
    refine Ev.step (fun k => by rw [spec_inset.l0, w64 (x := (i : Int) + 1) (by omega) (by omega)]) (ev_ifp (by omega) (ev_ifp (by omega) ?_))
    rw [List.drop_eq_getElem_cons (by omega), insetL, ← hb]
    by_cases h32 : bt x (i : Int) = 32
    · rw [if_pos h32]
      refine ev_ifp h32 ?_
      rw [show i + (insetL ((ints x).drop (i + 1)) + 1) = i + 1 + insetL ((ints x).drop (i + 1)) from by omega]
      exact h
    · rw [if_neg h32]
      exact ev_ifn h32 (Ev.now _)
theorem rows_tells (s : ByteArray) (hs : s.size ≤ 100000) : ∃ L : List ByteArray, L.map ints = linesL (ints s) ∧ Ev (fun k => spec_Rows.f k s) L := by
  have hl := ints_length s
  suffices h : ∀ d i f : Nat, i + d = s.size → f ≤ i → 10 ∉ ((ints s).drop f).take (i - f) → ∀ acc : List ByteArray, acc.length ≤ i → ∃ L : List ByteArray, L.map ints = linesL ((ints s).drop f) ∧ Ev (fun k => spec_Rows.l0 k s acc (f : Int) (i : Int)) (acc ++ L) by
    obtain ⟨L, h1, h2⟩ := h s.size 0 0 (by omega) (by omega) (by simp) [] (by simp)
    exact ⟨L, by simpa using h1, by simpa [spec_Rows.f] using h2⟩
  intro d
  induction d with
  | zero =>
    intro i f hi hf hno acc ha
    have e : i = s.size := by omega
    subst e
    rw [List.take_of_length_le (by rw [List.length_drop]; omega)] at hno
    refine ⟨[s.extract f s.size], ?_, ?_⟩
    · rw [linesL_one _ hno]
      simp only [List.map_cons, List.map_nil, ints_extract]
      rw [List.take_of_length_le (by rw [List.length_drop]; omega)]
    · refine Ev.step (fun k => by rw [spec_Rows.l0, w64 (x := (s.size : Int) + 1) (by omega) (by omega)]) (ev_ifp (by omega) (ev_ifp rfl (ev_ifp (by omega) (ev_ifp (by omega) (ev_ifp (by omega) ?_)))))
      refine Ev.step (fun k => by rw [spec_Rows.l0]) (ev_ifn (by omega) (ev_some ?_))
      rw [show ((f : Int)).toNat = f from by omega, show ((s.size : Int)).toNat = s.size from by omega]
  | succ d ih =>
    intro i f hi hf hno acc ha
    have hb := bt_list s i (by omega)
    have hii : ((i + 1 : Nat) : Int) = (i : Int) + 1 := by omega
    have hsplit : ((ints s).drop f).take (i + 1 - f) = ((ints s).drop f).take (i - f) ++ [(ints s)[i]'(by omega)] := by
      rw [show i + 1 - f = (i - f) + 1 from by omega, List.take_succ_eq_append_getElem (by rw [List.length_drop]; omega), List.getElem_drop]
      congr 2
      simp [show f + (i - f) = i from by omega]
    by_cases h10 : bt s (i : Int) = 10
    · obtain ⟨L, h1, h2⟩ := ih (i + 1) (i + 1) (by omega) (by omega) (by simp) (acc ++ [s.extract f i]) (by simp; omega)
      rw [hii] at h2
      refine ⟨s.extract f i :: L, ?_, ?_⟩
      · have e : (ints s).drop f = ((ints s).drop f).take (i - f) ++ 10 :: (ints s).drop (i + 1) := by
          have e1 := (List.take_append_drop (i + 1 - f) ((ints s).drop f)).symm
          rw [hsplit, List.drop_drop, show f + (i + 1 - f) = i + 1 from by omega, ← hb, h10, List.append_assoc] at e1
          exact e1
        rw [e, linesL_cut _ _ hno, ← h1, List.map_cons, ints_extract]
      · refine Ev.step (fun k => by rw [spec_Rows.l0, w64 (x := (i : Int) + 1) (by omega) (by omega)]) (ev_ifp (by omega) (ev_ifn (by omega) (ev_ifp (by omega) (ev_ifp (by omega) (ev_ifp h10 (ev_ifp (by omega) (ev_ifp (by omega) (ev_ifp (by omega) ?_))))))))
        rw [show ((f : Int)).toNat = f from by omega, show ((i : Int)).toNat = i from by omega]
        rw [List.append_assoc] at h2
        exact h2
    · obtain ⟨L, h1, h2⟩ := ih (i + 1) f (by omega) (by omega) (by
        rw [hsplit]
        intro hm
        rcases List.mem_append.1 hm with hm | hm
        · exact hno hm
        · simp at hm; rw [← hb] at hm; exact h10 hm.symm) acc (by omega)
      rw [hii] at h2
      exact ⟨L, h1, Ev.step (fun k => by rw [spec_Rows.l0, w64 (x := (i : Int) + 1) (by omega) (by omega)]) (ev_ifp (by omega) (ev_ifn (by omega) (ev_ifp (by omega) (ev_ifp (by omega) (ev_ifn h10 h2)))))⟩
theorem rd_L (L : List ByteArray) (i : Nat) (h : i < L.length) : rdOf ByteArray.empty L (i : Int) = L[i] := by
  unfold rdOf
  rw [show ((i : Int)).toNat = i from by omega, List.getD_eq_getElem?_getD, List.getElem?_eq_getElem h]
  rfl
theorem join_at (L : List ByteArray) (i : Nat) (h : i < L.length) : joinL ((L.map ints).take (i + 1)) = joinL ((L.map ints).take i) ++ ints L[i] ++ [10] := by
  rw [List.take_succ_eq_append_getElem (by simpa using h), joinL_append]
  simp [joinL]
theorem together_tells (L : List ByteArray) (hl : L.length ≤ 1000000) (hj : (joinL (L.map ints)).length ≤ 1000000) (h0 : 0 < L.length) : ∃ T : ByteArray, ints T ++ [10] = joinL (L.map ints) ∧ Ev (fun k => spec_Together.f k L) T := by
  suffices h : ∀ d i : Nat, i + d = L.length → ∀ x : ByteArray, (0 < i → ints x ++ [10] = joinL ((L.map ints).take i)) → (i = 0 → x = ⟨#[]⟩) →
      ∃ T : ByteArray, ints T ++ [10] = joinL (L.map ints) ∧ Ev (fun k => spec_Together.l0 k L x (i : Int)) T from h L.length 0 (by omega) ⟨#[]⟩ (fun h => by omega) (fun _ => rfl)
  intro d
  induction d with
  | zero =>
    intro i hi x hx _
    refine ⟨x, ?_, Ev.step (fun k => by rw [spec_Together.l0]) (ev_ifn (by omega) (Ev.now _))⟩
    rw [hx (by omega), List.take_of_length_le (by rw [List.length_map]; omega)]
  | succ d ih =>
    intro i hi x hx hx0
    have hil : i < L.length := by omega
    have hrd := rd_L L i hil
    have hja := join_at L i hil
    have hsz : (joinL ((L.map ints).take (i + 1))).length ≤ 1000000 := by
      have := join_mono (L.map ints) (i := i + 1) (j := (L.map ints).length) (by rw [List.length_map]; omega)
      rw [List.take_length] at this
      omega
    rw [hja] at hsz
    simp only [List.length_append, ints_length, List.length_cons, List.length_nil] at hsz
    by_cases hi0 : 0 < i
    · have e := hx hi0
      have hxl : x.size + 1 = (joinL ((L.map ints).take i)).length := by rw [← e, List.length_append, ints_length]; rfl
      have hnl : ints (⟨#[10]⟩ : ByteArray) = [10] := rfl
      have hz2 : (x ++ (⟨#[10]⟩ : ByteArray)).size = x.size + 1 := by rw [← ints_length, ints_append, List.length_append, ints_length, hnl]; rfl
      obtain ⟨T, h1, h2⟩ := ih (i + 1) (by omega) ((x ++ (⟨#[10]⟩ : ByteArray)) ++ L[i]) (fun _ => by rw [hja, ints_append, ints_append, hnl, e]) (fun hh => by omega)
      refine ⟨T, h1, Ev.step (fun k => by rw [spec_Together.l0, hrd, w64 (x := (i : Int) + 1) (by omega) (by omega), show (i : Int) + 1 = ((i + 1 : Nat) : Int) from by omega]) (ev_ifp (by omega) (ev_ifp (by omega) (ev_ifp (by omega) (ev_ifp (by omega) (ev_ifp (by rw [hz2]; omega) h2)))))⟩
    · have hi00 : i = 0 := by omega
      have e := hx0 hi00
      subst e
      have e0 : joinL ((L.map ints).take i) = [] := by rw [hi00]; rfl
      obtain ⟨T, h1, h2⟩ := ih (i + 1) (by omega) ((⟨#[]⟩ : ByteArray) ++ L[i]) (fun _ => by rw [hja, ints_append, e0]; simp [ints]) (fun hh => by omega)
      exact ⟨T, h1, Ev.step (fun k => by rw [spec_Together.l0, hrd, w64 (x := (i : Int) + 1) (by omega) (by omega), show (i : Int) + 1 = ((i + 1 : Nat) : Int) from by omega]) (ev_ifp (by omega) (ev_ifn (by omega) (ev_ifp (by omega) (ev_ifp (by show 0 + _ ≤ _; omega) h2))))⟩

/-- The least inset of the lines with something else than blanks; none if one of these begins without blanks. -/
def leastL : Int → List (List Int) → Option Int
  | m, [] => some m
  | m, r :: t => if insetL r = r.length then leastL m t else if insetL r = 0 then none else if m < 0 then leastL (insetL r) t else if (insetL r : Int) < m then leastL (insetL r) t else leastL m t
def cutL (m : Nat) (r : List Int) : List Int := r.drop (min m (insetL r))
def updL (m : Nat) (r : List Int) : Nat := if insetL r = r.length then m else if insetL r = 0 then m else if m = 0 ∨ insetL r < m then insetL r else m
theorem least_facts : ∀ (rows : List (List Int)) (m m' : Int), (m = -1 ∨ 0 < m) → leastL m rows = some m' →
    (m' = -1 ∨ 0 < m') ∧ (0 < m → 0 < m' ∧ m' ≤ m) ∧ (∀ r ∈ rows, insetL r = r.length ∨ (0 < m' ∧ m' ≤ insetL r)) ∧ rows.foldl updL m.toNat = m'.toNat
  | [], m, m', hm, h => by
    have e := Option.some.inj h
    subst e
    exact ⟨hm, fun h => ⟨h, by omega⟩, by simp, rfl⟩
  | r :: t, m, m', hm, h => by
    unfold leastL at h
    rw [List.foldl_cons]
    by_cases h1 : insetL r = r.length
    · rw [if_pos h1] at h
      obtain ⟨a, b, c, d⟩ := least_facts t m m' hm h
      refine ⟨a, b, fun x hx => ?_, by rw [updL, if_pos h1]; exact d⟩
      rcases List.mem_cons.1 hx with rfl | hx
      · exact .inl h1
      · exact c x hx
    · rw [if_neg h1] at h
      by_cases h2 : insetL r = 0
      · rw [if_pos h2] at h; cases h
      · rw [if_neg h2] at h
        by_cases h3 : m < 0
        · rw [if_pos h3] at h
          obtain ⟨a, b, c, d⟩ := least_facts t _ m' (.inr (by omega)) h
          have b' := b (by omega)
          refine ⟨a, fun h => by omega, fun x hx => ?_, ?_⟩
          · rcases List.mem_cons.1 hx with rfl | hx
            · exact .inr b'
            · exact c x hx
          · rw [updL, if_neg h1, if_neg h2, if_pos (.inl (by omega))]; simpa using d
        · rw [if_neg h3] at h
          by_cases h4 : (insetL r : Int) < m
          · rw [if_pos h4] at h
            obtain ⟨a, b, c, d⟩ := least_facts t _ m' (.inr (by omega)) h
            have b' := b (by omega)
            refine ⟨a, fun h => ⟨b'.1, by omega⟩, fun x hx => ?_, ?_⟩
            · rcases List.mem_cons.1 hx with rfl | hx
              · exact .inr b'
              · exact c x hx
            · rw [updL, if_neg h1, if_neg h2, if_pos (.inr (by omega))]; simpa using d
          · rw [if_neg h4] at h
            obtain ⟨a, b, c, d⟩ := least_facts t m m' hm h
            have b' := b (by omega)
            refine ⟨a, b, fun x hx => ?_, ?_⟩
            · rcases List.mem_cons.1 hx with rfl | hx
              · exact .inr ⟨b'.1, by omega⟩
              · exact c x hx
            · rw [updL, if_neg h1, if_neg h2, if_neg (by omega)]; exact d

def cutB (m : Nat) (x : ByteArray) : ByteArray := x.extract (min m (insetL (ints x))) x.size
theorem cutB_ints (m : Nat) (x : ByteArray) : ints (cutB m x) = cutL m (ints x) := by
  unfold cutB cutL
  rw [ints_extract, List.take_of_length_le (by rw [List.length_drop, ints_length]; exact Nat.le_refl _)]
theorem cut_tells (L : List ByteArray) (m : Nat) (hm : 0 < m) (hl : L.length ≤ 1000000) (hz : ∀ x ∈ L, x.size ≤ 1000000) (T : ByteArray) (hE : Ev (fun k => spec_Together.f k (L.map (cutB m))) T) :
    ∀ d i : Nat, i + d = L.length → Ev (fun k => spec_Dedented.l1 k ((L.take i).map (cutB m) ++ L.drop i) (m : Int) (i : Int)) (T, true) := by
  intro d
  induction d with
  | zero =>
    intro i hi
    have e : i = L.length := by omega
    subst e
    rw [List.take_length, List.drop_length, List.append_nil]
    refine Ev.step (fun k => by rw [spec_Dedented.l1]) (ev_ifn (by simp) (ev_bind hE (ev_some ?_)))
    rw [decide_eq_true (by omega)]
  | succ d ih =>
    intro i hi
    have hil : i < L.length := by omega
    have h := ih (i + 1) (by omega)
    rw [show ((i + 1 : Nat) : Int) = (i : Int) + 1 from by omega] at h
    have hlen : ((L.take i).map (cutB m)).length = i := by rw [List.length_map, List.length_take]; omega
    have hfull : ((L.take i).map (cutB m) ++ L.drop i).length = L.length := by rw [List.length_append, hlen, List.length_drop]; omega
    have hrd : rdOf ByteArray.empty ((L.take i).map (cutB m) ++ L.drop i) (i : Int) = L[i] := by
      rw [rd_L _ i (by omega), List.getElem_append_right (by omega)]
      simp only [hlen, Nat.sub_self, List.getElem_drop, Nat.add_zero]
    have hzi := hz L[i] (List.getElem_mem hil)
    have hin := inset_tells L[i] hzi
    have hle := insetL_le (ints L[i])
    rw [ints_length] at hle
    have hmn : mn (m : Int) (insetL (ints L[i]) : Int) = ((min m (insetL (ints L[i])) : Nat) : Int) := by unfold mn; split <;> omega
    refine Ev.step (fun k => by rw [spec_Dedented.l1, hrd, w64 (x := (i : Int) + 1) (by omega) (by omega)]) (ev_ifp (by omega) (ev_ifp (by omega) (ev_ifp (by omega) (ev_bind hin ?_))))
    rw [hmn]
    refine ev_ifp (by omega) (ev_ifp (by omega) ?_)
    rw [show (((min m (insetL (ints L[i])) : Nat) : Int)).toNat = min m (insetL (ints L[i])) from by omega, show ((i : Int)).toNat = i from by omega]
    have hset : ((L.take i).map (cutB m) ++ L.drop i).set i (L[i].extract (min m (insetL (ints L[i]))) L[i].size) = (L.take (i + 1)).map (cutB m) ++ L.drop (i + 1) := by
      rw [List.set_append_right _ _ (by omega), hlen, Nat.sub_self, List.drop_eq_getElem_cons hil, List.set_cons_zero, List.take_succ_eq_append_getElem hil, List.map_append, List.append_assoc]
      rfl
    rw [hset]
    exact h
theorem least_tells (L : List ByteArray) (hl : L.length ≤ 1000000) (hz : ∀ x ∈ L, x.size ≤ 1000000) : ∀ d i : Nat, i + d = L.length → ∀ (m : Int),
    (leastL m ((L.drop i).map ints) = none → Ev (fun k => spec_Dedented.l0 k L m (i : Int)) ((⟨#[]⟩ : ByteArray), false)) ∧
    (∀ m' R, leastL m ((L.drop i).map ints) = some m' → Ev (fun k => spec_Dedented.l1 k L m' 0) R → Ev (fun k => spec_Dedented.l0 k L m (i : Int)) R) := by
  intro d
  induction d with
  | zero =>
    intro i hi m
    have e : i = L.length := by omega
    subst e
    rw [List.drop_length]
    refine ⟨fun h => by simp [leastL] at h, fun m' R h hR => ?_⟩
    have := Option.some.inj h
    subst this
    exact Ev.step (fun k => by rw [spec_Dedented.l0]) (ev_ifn (by omega) hR)
  | succ d ih =>
    intro i hi m
    have hil : i < L.length := by omega
    have hrd := rd_L L i hil
    have hzi := hz L[i] (List.getElem_mem hil)
    have hin := inset_tells L[i] hzi
    rw [List.drop_eq_getElem_cons hil, List.map_cons, leastL]
    have hii : ((i + 1 : Nat) : Int) = (i : Int) + 1 := by omega
    have hs : ∀ R, Ev (fun k => if (insetL (ints L[i]) : Int) = (L[i].size : Int) then spec_Dedented.l0 k L m ((i : Int) + 1) else (if (insetL (ints L[i]) : Int) = 0 then (some ((⟨#[]⟩ : ByteArray), false)) else (if m < 0 then (spec_Dedented.l0 k L (insetL (ints L[i]) : Int) ((i : Int) + 1)) else (if (insetL (ints L[i]) : Int) < m then (spec_Dedented.l0 k L (insetL (ints L[i]) : Int) ((i : Int) + 1)) else (spec_Dedented.l0 k L m ((i : Int) + 1)))))) R → Ev (fun k => spec_Dedented.l0 k L m (i : Int)) R := fun R h => by
      refine Ev.step (fun k => by rw [spec_Dedented.l0, hrd, w64 (x := (i : Int) + 1) (by omega) (by omega)]) (ev_ifp (by omega) (ev_ifp (by omega) (ev_bind hin h)))
    have hzl := ints_length L[i]
    by_cases h1 : insetL (ints L[i]) = (ints L[i]).length
    · rw [if_pos h1]
      obtain ⟨a, b⟩ := ih (i + 1) (by omega) m
      rw [hii] at a b
      exact ⟨fun h => hs _ (ev_ifp (by omega) (a h)), fun m' R h hR => hs _ (ev_ifp (by omega) (b m' R h hR))⟩
    · rw [if_neg h1]
      by_cases h2 : insetL (ints L[i]) = 0
      · rw [if_pos h2]
        exact ⟨fun h => hs _ (ev_ifn (by omega) (ev_ifp (by omega) (Ev.now _))), fun m' R h hR => by cases h⟩
      · rw [if_neg h2]
        by_cases h3 : m < 0
        · rw [if_pos h3]
          obtain ⟨a, b⟩ := ih (i + 1) (by omega) (insetL (ints L[i]) : Int)
          rw [hii] at a b
          exact ⟨fun h => hs _ (ev_ifn (by omega) (ev_ifn (by omega) (ev_ifp h3 (a h)))), fun m' R h hR => hs _ (ev_ifn (by omega) (ev_ifn (by omega) (ev_ifp h3 (b m' R h hR))))⟩
        · rw [if_neg h3]
          by_cases h4 : (insetL (ints L[i]) : Int) < m
          · rw [if_pos h4]
            obtain ⟨a, b⟩ := ih (i + 1) (by omega) (insetL (ints L[i]) : Int)
            rw [hii] at a b
            exact ⟨fun h => hs _ (ev_ifn (by omega) (ev_ifn (by omega) (ev_ifn h3 (ev_ifp h4 (a h))))), fun m' R h hR => hs _ (ev_ifn (by omega) (ev_ifn (by omega) (ev_ifn h3 (ev_ifp h4 (b m' R h hR)))))⟩
          · rw [if_neg h4]
            obtain ⟨a, b⟩ := ih (i + 1) (by omega) m
            rw [hii] at a b
            exact ⟨fun h => hs _ (ev_ifn (by omega) (ev_ifn (by omega) (ev_ifn h3 (ev_ifn h4 (a h))))), fun m' R h hR => hs _ (ev_ifn (by omega) (ev_ifn (by omega) (ev_ifn h3 (ev_ifn h4 (b m' R h hR)))))⟩

/-- One sign of the code's search for the least inset. -/
def mstep (q : Int × Int × Bool) (x : Int) : Int × Int × Bool :=
  if x = 32 then (if q.2.2 = true then (q.1 + 1, q.2.1, q.2.2) else q)
  else if x = 10 then (0, q.2.1, true)
  else if q.1 > 0 then (if q.2.1 = 0 then (0, q.1, false) else if q.1 < q.2.1 then (0, q.1, false) else (q.1, q.2.1, false)) else (q.1, q.2.1, false)
theorem min_tells (s : ByteArray) (hs : s.size ≤ 100000) (h9 : 9 ∉ ints s) : Ev (fun k => dedent_minIndent.f k s) ((ints s).foldl mstep (0, 0, true)).2.1 := by
  have hl := ints_length s
  suffices h : ∀ d i : Nat, i + d = s.size → ∀ (c m : Int) (f : Bool), 0 ≤ c → c ≤ i → Ev (fun k => dedent_minIndent.l0 k s c m f (i : Int)) (((ints s).drop i).foldl mstep (c, m, f)).2.1 by
    have := h s.size 0 (by omega) 0 0 true (by omega) (by omega)
    simpa [dedent_minIndent.f] using this
  intro d
  induction d with
  | zero =>
    intro i hi c m f h0 h1
    rw [List.drop_of_length_le (by omega)]
    refine Ev.step (f := fun k => if (i : Int) < (s.size : Int) then (if 0 ≤ (i : Int) then (if bt s (i : Int) = 32 then dedent_minIndent.j1 k s c m f (i : Int) (bt s (i : Int)) (bt s (i : Int) == 32) else dedent_minIndent.j1 k s c m f (i : Int) (bt s (i : Int)) (bt s (i : Int) == 9)) else none) else some m) (fun k => by rw [dedent_minIndent.l0]) ?_
    exact ev_ifn (by omega) (Ev.now _)
  | succ d ih =>
    intro i hi c m f h0 h1
    have hb := bt_list s i (by omega)
    have hx9 : bt s (i : Int) ≠ 9 := fun e => h9 (by rw [← e, hb]; exact List.getElem_mem _)
    have hii : (i : Int) + 1 = ((i + 1 : Nat) : Int) := by omega
    rw [List.drop_eq_getElem_cons (by omega), List.foldl_cons, ← hb]
    generalize hbt : bt s (i : Int) = x at *
    refine Ev.step (fun k => by rw [dedent_minIndent.l0, hbt]) (ev_ifp (by omega) (ev_ifp (by omega) ?_))
    unfold mstep
    by_cases h32 : x = 32
    · rw [if_pos h32]
      refine ev_ifp h32 (Ev.step (fun k => by rw [dedent_minIndent.j1, w64 (x := (i : Int) + 1) (by omega) (by omega), w64 (x := c + 1) (by omega) (by omega), hii]) (ev_ifp (by simp [h32]) ?_))
      cases f with
      | true => exact ev_ifp rfl (ih (i + 1) (by omega) (c + 1) m true (by omega) (by omega))
      | false => exact ev_ifn (by simp) (ih (i + 1) (by omega) c m false (by omega) (by omega))
    · rw [if_neg h32]
      refine ev_ifn h32 (Ev.step (fun k => by rw [dedent_minIndent.j1, w64 (x := (i : Int) + 1) (by omega) (by omega), hii]) (ev_ifn (by simp [hx9]) ?_))
      by_cases h10 : x = 10
      · rw [if_pos h10]; exact ev_ifp h10 (ih (i + 1) (by omega) 0 m true (by omega) (by omega))
      · rw [if_neg h10]
        refine ev_ifn h10 ?_
        by_cases hc : c > 0
        · rw [if_pos hc]
          refine ev_ifp hc ?_
          by_cases hm : m = 0
          · rw [if_pos hm]; exact ev_ifp hm (ih (i + 1) (by omega) 0 c false (by omega) (by omega))
          · rw [if_neg hm]
            refine ev_ifn hm ?_
            by_cases hcm : c < m
            · rw [if_pos hcm]; exact ev_ifp hcm (ih (i + 1) (by omega) 0 c false (by omega) (by omega))
            · rw [if_neg hcm]; exact ev_ifn hcm (ih (i + 1) (by omega) c m false (by omega) (by omega))
        · rw [if_neg hc]; exact ev_ifn hc (ih (i + 1) (by omega) c m false (by omega) (by omega))
theorem still (c m : Int) (hc : c ≤ 0 ∨ (m ≠ 0 ∧ m ≤ c)) : ∀ r : List Int, 10 ∉ r → r.foldl mstep (c, m, false) = (c, m, false)
  | [], _ => rfl
  | x :: r, h => by
    have h10 : ¬ x = 10 := fun e => h (by simp [e])
    rw [List.foldl_cons]
    have e : mstep (c, m, false) x = (c, m, false) := by
      unfold mstep
      by_cases h32 : x = 32
      · rw [if_pos h32]; rfl
      · rw [if_neg h32, if_neg h10]
        simp only
        by_cases hc0 : c > 0
        · rw [if_pos hc0, if_neg (by omega), if_neg (by omega)]
        · rw [if_neg hc0]
    rw [e]
    exact still c m hc r (fun hh => h (by simp [hh]))
theorem min_row : ∀ (r : List Int) (c m : Nat), 10 ∉ r → (r.foldl mstep ((c : Int), (m : Int), true)).2.1 = if insetL r = r.length then (m : Int) else if c + insetL r = 0 then (m : Int) else if m = 0 ∨ c + insetL r < m then ((c + insetL r : Nat) : Int) else (m : Int)
  | [], c, m, _ => rfl
  | x :: r, c, m, h => by
    have h10 : ¬ x = 10 := fun e => h (by simp [e])
    have hr : 10 ∉ r := fun hh => h (by simp [hh])
    rw [List.foldl_cons]
    by_cases h32 : x = 32
    · have e : mstep ((c : Int), (m : Int), true) x = (((c + 1 : Nat) : Int), (m : Int), true) := by
        unfold mstep; rw [if_pos h32]; simp
      rw [e, min_row r (c + 1) m hr, insetL, if_pos h32, List.length_cons]
      have e1 : c + 1 + insetL r = c + (insetL r + 1) := by omega
      by_cases hb : insetL r = r.length
      · rw [if_pos hb, if_pos (by omega)]
      · rw [if_neg hb, if_neg (show ¬ insetL r + 1 = r.length + 1 by omega), e1]
    · have hi : insetL (x :: r) = 0 := by rw [insetL, if_neg h32]
      have e : mstep ((c : Int), (m : Int), true) x = (if (c : Int) > 0 then (if (m : Int) = 0 then (0, (c : Int), false) else if (c : Int) < (m : Int) then (0, (c : Int), false) else ((c : Int), (m : Int), false)) else ((c : Int), (m : Int), false)) := by
        unfold mstep
        rw [if_neg h32, if_neg h10]
      rw [hi, if_neg (by simp), Nat.add_zero, e]
      by_cases hc0 : (c : Int) > 0
      · rw [if_pos hc0, if_neg (show ¬ c = 0 by omega)]
        by_cases hm : (m : Int) = 0
        · rw [if_pos hm, still _ _ (.inl (by omega)) r hr, if_pos (.inl (by omega))]
        · rw [if_neg hm]
          by_cases hcm : (c : Int) < m
          · rw [if_pos hcm, still _ _ (.inl (by omega)) r hr, if_pos (.inr (by omega))]
          · rw [if_neg hcm, still _ _ (.inr ⟨hm, by omega⟩) r hr, if_neg (by omega)]
      · rw [if_neg hc0, still _ _ (.inl (by omega)) r hr, if_pos (by omega)]
theorem min_all : ∀ (l : List Int) (m : Nat), (l.foldl mstep (0, (m : Int), true)).2.1 = (((linesL l).foldl updL m : Nat) : Int) := by
  refine lines_ind (fun l hl m => ?_) (fun a b ha ih m => ?_)
  · have h := min_row l 0 m hl
    rw [linesL_one l hl, List.foldl_cons, List.foldl_nil, updL]
    simp only [Nat.zero_add] at h
    refine h.trans ?_
    split
    · rfl
    · split
      · rfl
      · split <;> rfl
  · have h := min_row a 0 m ha
    simp only [Nat.zero_add] at h
    have h2 : (a.foldl mstep (0, (m : Int), true)).2.1 = ((updL m a : Nat) : Int) := by
      refine h.trans ?_
      unfold updL
      split
      · rfl
      · split
        · rfl
        · split <;> rfl
    rw [linesL_cut b a ha, List.foldl_append, List.foldl_cons, List.foldl_cons]
    have e : mstep (a.foldl mstep (0, (m : Int), true)) 10 = (0, ((updL m a : Nat) : Int), true) := by
      rw [← h2]
      unfold mstep
      simp
    rw [e, ih]

/-- One sign of the code's cutting, in numbers. -/
def di (k : Int) (q : Int × Bool × List Int) (x : Int) : Int × Bool × List Int :=
  if x = 32 ∨ x = 9 then (if q.2.1 = true then (if q.1 < k then (q.1 + 1, true, q.2.2) else (q.1, false, q.2.2 ++ [x])) else (q.1, false, q.2.2 ++ [x]))
  else if x = 10 then (0, true, q.2.2 ++ [x]) else (q.1, q.2.1, q.2.2 ++ [x])
def num (b : UInt8) : Int := (b.toNat : Int)
theorem di_of (k : Int) : ∀ (l : List UInt8) (o : Int) (f : Bool) (out : List UInt8), (l.map num).foldl (di k) (o, f, out.map num) = ((l.foldl (dstep k) (o, f, out)).1, (l.foldl (dstep k) (o, f, out)).2.1, (l.foldl (dstep k) (o, f, out)).2.2.map num)
  | [], o, f, out => rfl
  | b :: l, o, f, out => by
    rw [List.map_cons, List.foldl_cons, List.foldl_cons]
    have e : di k (o, f, out.map num) (num b) = ((dstep k (o, f, out) b).1, (dstep k (o, f, out) b).2.1, (dstep k (o, f, out) b).2.2.map num) := by
      unfold di dstep
      simp only [beq_iff_eq]
      show (if (b.toNat : Int) = 32 ∨ (b.toNat : Int) = 9 then _ else if (b.toNat : Int) = 10 then _ else _) = _
      split
      · split
        · split
          · rfl
          · simp [num]
        · simp [num]
      · split
        · simp [num]
        · simp [num]
    rw [e]
    obtain ⟨o', f', out'⟩ := dstep k (o, f, out) b
    exact di_of k l o' f' out'
theorem di_full (k : Int) : ∀ (r : List Int) (o : Int) (f : Bool) (out : List Int), 10 ∉ r → 9 ∉ r → (¬ o < k ∨ f = false) → (r.foldl (di k) (o, f, out)).2.2 = out ++ r
  | [], _, _, out, _, _, _ => by simp
  | x :: r, o, f, out, h10, h9, hf => by
    have a10 : ¬ x = 10 := fun e => h10 (by simp [e])
    have a9 : ¬ x = 9 := fun e => h9 (by simp [e])
    have r10 : 10 ∉ r := fun e => h10 (by simp [e])
    have r9 : 9 ∉ r := fun e => h9 (by simp [e])
    rw [List.foldl_cons]
    by_cases h32 : x = 32
    · have e : di k (o, f, out) x = (o, false, out ++ [x]) := by
        unfold di
        rw [if_pos (.inl h32)]
        rcases hf with hf | hf
        · simp only [if_neg hf]; split <;> rfl
        · simp [hf]
      rw [e, di_full k r o false _ r10 r9 (.inr rfl), List.append_assoc]; rfl
    · have e : di k (o, f, out) x = (o, f, out ++ [x]) := by
        unfold di
        rw [if_neg (by omega), if_neg a10]
      rw [e, di_full k r o f _ r10 r9 hf, List.append_assoc]; rfl
theorem di_row (k : Nat) : ∀ (r : List Int) (o : Nat) (out : List Int), 10 ∉ r → 9 ∉ r → o ≤ k → (insetL r = r.length ∨ k - o ≤ insetL r) → (r.foldl (di (k : Int)) ((o : Int), true, out)).2.2 = out ++ r.drop (min (k - o) (insetL r))
  | [], o, out, _, _, _, _ => by simp
  | x :: r, o, out, h10, h9, ho, hc => by
    have r10 : 10 ∉ r := fun e => h10 (by simp [e])
    have r9 : 9 ∉ r := fun e => h9 (by simp [e])
    by_cases hk : o = k
    · subst hk
      rw [di_full _ _ _ _ _ h10 h9 (.inl (by omega)), Nat.sub_self, Nat.zero_min, List.drop_zero]
    · by_cases h32 : x = 32
      · have e : di (k : Int) ((o : Int), true, out) x = (((o + 1 : Nat) : Int), true, out) := by
          unfold di
          rw [if_pos (.inl h32)]
          simp only [if_true]
          rw [if_pos (by omega)]
          simp
        rw [insetL, if_pos h32, List.length_cons] at hc
        rw [List.foldl_cons, e, di_row k r (o + 1) out r10 r9 (by omega) (by omega), insetL, if_pos h32]
        have e2 : min (k - o) (insetL r + 1) = min (k - (o + 1)) (insetL r) + 1 := by omega
        rw [e2, List.drop_succ_cons]
      · rw [insetL, if_neg h32, List.length_cons] at hc
        omega
theorem di_all (k : Nat) : ∀ (l : List Int), 9 ∉ l → (∀ r ∈ linesL l, insetL r = r.length ∨ k ≤ insetL r) → ∀ out, (l.foldl (di (k : Int)) (0, true, out)).2.2 ++ [10] = out ++ joinL ((linesL l).map (cutL k)) := by
  refine lines_ind (fun l hl h9 hr out => ?_) (fun a b ha ih h9 hr out => ?_)
  · rw [linesL_one l hl] at hr ⊢
    have := di_row k l 0 out hl h9 (Nat.zero_le _) (by simpa using hr l (by simp))
    rw [show ((0 : Nat) : Int) = 0 from rfl] at this
    rw [this]
    simp [joinL, cutL]
  · rw [linesL_cut b a ha] at hr ⊢
    have r9 : 9 ∉ a := fun e => h9 (by simp [e])
    have b9 : 9 ∉ b := fun e => h9 (by simp [e])
    have h1 := di_row k a 0 out ha r9 (Nat.zero_le _) (by simpa using hr a (by simp))
    rw [show ((0 : Nat) : Int) = 0 from rfl] at h1
    rw [List.foldl_append, List.foldl_cons]
    have e : di (k : Int) (a.foldl (di (k : Int)) (0, true, out)) 10 = (0, true, (out ++ cutL k a) ++ [10]) := by
      unfold di
      rw [if_neg (by omega), if_pos rfl]
      rw [show (fun (q : Int × Bool × List Int) (x : Int) => if x = 32 ∨ x = 9 then (if q.2.1 = true then (if q.1 < (k : Int) then (q.1 + 1, true, q.2.2) else (q.1, false, q.2.2 ++ [x])) else (q.1, false, q.2.2 ++ [x])) else if x = 10 then (0, true, q.2.2 ++ [x]) else (q.1, q.2.1, q.2.2 ++ [x])) = di (k : Int) from rfl, h1]
      simp [cutL]
    rw [e, ih b9 (fun r hh => hr r (by simp [hh])), List.map_cons, joinL_cons]
    simp

theorem plain_tells (s : ByteArray) (hs : s.size ≤ 4611686018427387904) : ∃ b, Ev (fun k => laws_plain16.f k s) b ∧ (b = true → s.size ≤ 2000 ∧ 9 ∉ ints s) := by
  have hl := ints_length s
  unfold laws_plain16.f
  by_cases hz : (s.size : Int) ≤ 2000
  · have h : ∀ d i : Nat, i + d = s.size → ∃ b, Ev (fun k => spec_Plain.l0 k s (i : Int)) b ∧ (b = true → 9 ∉ (ints s).drop i) := by
      intro d
      induction d with
      | zero =>
        intro i hi
        refine ⟨true, Ev.step (fun k => by rw [spec_Plain.l0]) (ev_ifn (by omega) (Ev.now _)), fun _ => ?_⟩
        rw [List.drop_of_length_le (by omega)]; simp
      | succ d ih =>
        intro i hi
        obtain ⟨b, h1, h2⟩ := ih (i + 1) (by omega)
        rw [show ((i + 1 : Nat) : Int) = (i : Int) + 1 from by omega] at h1
        have hb := bt_list s i (by omega)
        by_cases h10 : bt s (i : Int) = 10
        · refine ⟨b, Ev.step (fun k => by rw [spec_Plain.l0, w64 (x := (i : Int) + 1) (by omega) (by omega)]) (ev_ifp (by omega) (ev_ifp (by omega) (ev_ifp h10 h1))), fun hbt hm => ?_⟩
          rw [List.drop_eq_getElem_cons (by omega), ← hb, h10] at hm
          rcases List.mem_cons.1 hm with e | hm
          · omega
          · exact h2 hbt hm
        · by_cases h32 : bt s (i : Int) < 32
          · exact ⟨false, Ev.step (fun k => by rw [spec_Plain.l0]) (ev_ifp (by omega) (ev_ifp (by omega) (ev_ifn h10 (ev_ifp h32 (Ev.now _))))), fun h => by cases h⟩
          · by_cases h126 : bt s (i : Int) > 126
            · exact ⟨false, Ev.step (fun k => by rw [spec_Plain.l0]) (ev_ifp (by omega) (ev_ifp (by omega) (ev_ifn h10 (ev_ifn h32 (ev_ifp h126 (Ev.now _)))))), fun h => by cases h⟩
            · refine ⟨b, Ev.step (fun k => by rw [spec_Plain.l0, w64 (x := (i : Int) + 1) (by omega) (by omega)]) (ev_ifp (by omega) (ev_ifp (by omega) (ev_ifn h10 (ev_ifn h32 (ev_ifn h126 h1))))), fun hbt hm => ?_⟩
              rw [List.drop_eq_getElem_cons (by omega), ← hb] at hm
              rcases List.mem_cons.1 hm with e | hm
              · omega
              · exact h2 hbt hm
    obtain ⟨b, h1, h2⟩ := h s.size 0 (by omega)
    exact ⟨b, ev_ifp hz (ev_bind h1 (Ev.now _)), fun hb => ⟨by omega, by simpa using h2 hb⟩⟩
  · exact ⟨false, ev_ifn hz (Ev.now _), fun h => by cases h⟩

theorem FnDedented : laws_FnDedented.Pure := by
  intro s hs
  refine Ev.rounds (r := true) ?_
  unfold laws_FnDedented.f
  by_cases hbig : (s.size : Int) > 2147483647
  · exact ev_ifp hbig (Ev.now _)
  refine ev_ifn hbig ?_
  obtain ⟨b, hb, q⟩ := plain_tells s (by omega)
  refine ev_bind hb ?_
  cases b with
  | false => exact ev_ifn (by simp) (Ev.now _)
  | true =>
    obtain ⟨hz, h9⟩ := q rfl
    refine ev_ifp rfl ?_
    obtain ⟨L, hL, hE⟩ := rows_tells s (by omega)
    have hl := ints_length s
    have hjoin := linesL_join (ints s)
    have hlen : L.length = (linesL (ints s)).length := by rw [← hL, List.length_map]
    have hjl : (joinL (L.map ints)).length = s.size + 1 := by rw [hL, hjoin, List.length_append, hl]; rfl
    have hcnt := linesL_count (ints s)
    have hc1 : (ints s).count 10 ≤ (ints s).length := List.count_le_length
    have hsz : ∀ x ∈ L, x.size ≤ 1000000 := by
      intro x hx
      obtain ⟨i, hi, rfl⟩ := List.getElem_of_mem hx
      have h4 := join_at L i hi
      have h5 := join_mono (L.map ints) (i := i + 1) (j := (L.map ints).length) (by rw [List.length_map]; omega)
      rw [List.take_length, h4] at h5
      simp only [List.length_append, ints_length] at h5
      omega
    obtain ⟨hnone, hsome⟩ := least_tells L (by omega) hsz L.length 0 (by omega) (-1)
    rw [List.drop_zero, hL] at hnone hsome
    cases hle : leastL (-1) (linesL (ints s)) with
    | none =>
      refine ev_bind (a := ((⟨#[]⟩ : ByteArray), false)) ?_ (ev_ifn (by simp) (Ev.now _))
      unfold spec_Dedented.f
      exact ev_bind hE (hnone hle)
    | some m' =>
      obtain ⟨f1, _, f3, f4⟩ := least_facts (linesL (ints s)) (-1) m' (.inl rfl) hle
      rcases f1 with rfl | hpos
      · obtain ⟨T, _, hT⟩ := together_tells L (by omega) (by omega) (by omega)
        refine ev_bind (a := (T, false)) ?_ (ev_ifn (by simp) (Ev.now _))
        unfold spec_Dedented.f
        refine ev_bind hE (hsome (-1) _ hle ?_)
        refine Ev.step (fun k => by rw [spec_Dedented.l1]) (ev_ifp (by omega) (ev_ifn (by omega) (ev_bind hT (Ev.now _))))
      · obtain ⟨m, rfl⟩ := Int.eq_ofNat_of_zero_le (Int.le_of_lt hpos)
        have hmap : (L.map (cutB m)).map ints = (linesL (ints s)).map (cutL m) := by
          rw [← hL, List.map_map, List.map_map]
          exact List.map_congr_left fun x _ => cutB_ints m x
        have hcl : (joinL ((L.map (cutB m)).map ints)).length ≤ 1000000 := by
          have : ∀ A : List (List Int), (joinL (A.map (cutL m))).length ≤ (joinL A).length := by
            intro A
            induction A with
            | nil => simp [joinL]
            | cons a A ih =>
              rw [List.map_cons, joinL_cons, joinL_cons]
              simp only [List.length_append, List.length_cons]
              have : (cutL m a).length ≤ a.length := by unfold cutL; rw [List.length_drop]; omega
              omega
          have h6 := this (linesL (ints s))
          rw [hmap]
          rw [hL] at hjl
          omega
        obtain ⟨T, hT1, hT⟩ := together_tells (L.map (cutB m)) (by rw [List.length_map]; omega) hcl (by rw [List.length_map]; omega)
        have hcut := cut_tells L m (by omega) (by omega) hsz T hT L.length 0 (by omega)
        rw [List.take_zero, List.map_nil, List.nil_append, List.drop_zero] at hcut
        refine ev_bind (a := (T, true)) ?_ (ev_ifp rfl ?_)
        · unfold spec_Dedented.f
          exact ev_bind hE (hsome (m : Int) _ hle hcut)
        · have hmin := min_tells s (by omega) h9
          have e1 := min_all (ints s) 0
          rw [show ((0 : Nat) : Int) = 0 from rfl, show (0 : Nat) = (-1 : Int).toNat from rfl, f4] at e1
          rw [e1] at hmin
          have hmm : ((((m : Int)).toNat : Nat) : Int) = (m : Int) := by omega
          rw [hmm] at hmin
          have hm2000 : m ≤ 100000 := by
            rcases Nat.lt_or_ge 100000 m with hgt | hle2
            · exfalso
              have hrow := f3 
              have : ∃ r ∈ linesL (ints s), ¬ insetL r = r.length := by
                refine Classical.byContradiction fun hno => ?_
                have hall : ∀ r ∈ linesL (ints s), insetL r = r.length := fun r hr => Classical.byContradiction fun h => hno ⟨r, hr, h⟩
                have : ∀ (rows : List (List Int)), (∀ r ∈ rows, insetL r = r.length) → leastL (-1) rows = some (-1) := by
                  intro rows
                  induction rows with
                  | nil => intro _; rfl
                  | cons r t ih => intro h; rw [leastL, if_pos (h r (by simp))]; exact ih fun x hx => h x (by simp [hx])
                rw [this _ hall] at hle
                have := Option.some.inj hle
                omega
              obtain ⟨r, hr, hne⟩ := this
              rcases f3 r hr with h | ⟨_, h⟩
              · exact hne h
              · have h7 := insetL_le r
                rw [← hL] at hr
                obtain ⟨x, hx, rfl⟩ := List.mem_map.1 hr
                obtain ⟨i, hi, rfl⟩ := List.getElem_of_mem hx
                have h4 := join_at L i hi
                have h5 := join_mono (L.map ints) (i := i + 1) (j := (L.map ints).length) (by rw [List.length_map]; omega)
                rw [List.take_length, h4] at h5
                simp only [List.length_append] at h5
                omega
            · exact hle2
          have hded : dedent_dedent.f s (m : Int) = some ⟨(dall (m : Int) s.data.toList).2.2.toArray⟩ := by
            unfold dedent_dedent.f
            rw [if_pos ⟨by omega, by omega, by omega⟩]
          have hout : ints (⟨(dall (m : Int) s.data.toList).2.2.toArray⟩ : ByteArray) ++ [10] = joinL ((linesL (ints s)).map (cutL m)) := by
            have h1 := di_all m (ints s) h9 (fun r hr => by
              rcases f3 r hr with h | ⟨_, h⟩
              · exact .inl h
              · exact .inr (by omega)) []
            have h2 := di_of (m : Int) s.data.toList 0 true []
            rw [List.map_nil] at h2
            have h3 : (s.data.toList.map num) = ints s := rfl
            rw [h3] at h2
            rw [h2, List.nil_append] at h1
            exact h1
          have hTe : (⟨(dall (m : Int) s.data.toList).2.2.toArray⟩ : ByteArray) = T := by
            refine ints_inj ?_
            rw [hmap] at hT1
            exact List.append_cancel_right (hout.trans hT1.symm)
          refine ev_bind (a := T) ?_ (ev_some (by simp))
          unfold impl_Dedented.f dedent_String.f
          refine ev_bind (a := T) (ev_bind hmin (ev_ifn (by omega) ?_)) (Ev.now _)
          rw [hded, hTe]
          exact Ev.now _
end Go.Proofs.YthbdaoapjnofkaaDoor.Pure
