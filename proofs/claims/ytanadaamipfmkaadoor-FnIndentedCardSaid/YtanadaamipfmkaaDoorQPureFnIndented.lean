/- Each line begins with so many blanks: the pure statement behind the law FnIndented; no condition. -/
import Derived.Test.YtanadaamipfmkaaDoorQPFnIndentedx2
import Derived.Test.YtanadaamipfmkaaDoorQXPure
import Derived.Test.YtanadaamipfmkaaDoorQXLines
namespace Go.Proofs.YtanadaamipfmkaaDoor.Pure
open Go.RowKit Go.Proofs.YtanadaamipfmkaaDoor.R Go.Proofs.YtanadaamipfmkaaDoor.X Go.Proofs.YtanadaamipfmkaaDoor.H Go.Proofs.YtanadaamipfmkaaDoor.PFnIndented Go.Proofs.YtanadaamipfmkaaDoorW.PrintWords Go.Proofs.YtanadaamipfmkaaDoorW.PrintLast
set_option linter.unusedVariables false
theorem lines_ind {C : List Int → Prop} (h1 : ∀ l, 10 ∉ l → C l) (h2 : ∀ a b, 10 ∉ a → C b → C (a ++ 10 :: b)) : ∀ l, C l := by
  suffices h : ∀ (n : Nat) (l : List Int), l.length ≤ n → C l from fun l => h l.length l (Nat.le_refl _)
  intro n
  induction n with
  | zero => intro l hl; have : l = [] := List.eq_nil_of_length_eq_zero (by omega); subst this; exact h1 [] (by simp)
  | succ n ih =>
    intro l hl
    by_cases hm : (10 : Int) ∈ l
    · obtain ⟨a, b, e, hna⟩ := List.eq_append_cons_of_mem hm
      rw [e]
      rw [e] at hl
      simp at hl
      exact h2 a b hna (ih b (by omega))
    · exact h1 l hm
theorem nums_ints (l : List Int) (h : ∀ x ∈ l, 0 ≤ x ∧ x < 256) : ints (strOfNums l) = l := by
  unfold ints
  rw [strOfNums_data, List.map_map]
  refine (List.map_congr_left fun x hx => ?_).trans (List.map_id l)
  have := h x hx
  obtain ⟨n, rfl⟩ := Int.eq_ofNat_of_zero_le this.1
  simp only [Function.comp_apply, id_eq, Int.toNat_natCast, UInt8.toNat_ofNat']
  omega
theorem rows_tells (s : ByteArray) (hs : s.size ≤ 100000) : ∃ L : List ByteArray, L.map ints = linesL (ints s) ∧ Ev (fun k => spec_Rows.f k s) L := by
  have hl := ints_length s
  suffices h : ∀ d i f : Nat, i + d = s.size → f ≤ i → 10 ∉ ((ints s).drop f).take (i - f) → ∀ acc : List ByteArray, acc.length ≤ i → ∃ L : List ByteArray, L.map ints = linesL ((ints s).drop f) ∧ Ev (fun k => spec_Rows.l0 k s acc (f : Int) (i : Int)) (acc ++ L) by
    obtain ⟨L, h1, h2⟩ := h s.size 0 0 (by omega) (by omega) (by simp) [] (by simp)
    exact ⟨L, by simpa using h1, by simpa [spec_Rows.f] using h2⟩
  intro d
  induction d with
  | zero =>
    intro i f hi hf hno acc ha
    have e : i = s.size := by omega
    subst e
    rw [List.take_of_length_le (by rw [List.length_drop]; omega)] at hno
    refine ⟨[s.extract f s.size], ?_, ?_⟩
    · rw [linesL_one _ hno]
      simp only [List.map_cons, List.map_nil, ints_extract]
      rw [List.take_of_length_le (by rw [List.length_drop]; omega)]
    · refine Ev.step (fun k => by rw [spec_Rows.l0, w64 (x := (s.size : Int) + 1) (by omega) (by omega)]) (ev_ifp (by omega) (ev_ifp rfl (ev_ifp (by omega) (ev_ifp (by omega) (ev_ifp (by omega) ?_)))))
      refine Ev.step (fun k => by rw [spec_Rows.l0]) (ev_ifn (by omega) (ev_some ?_))
      rw [show ((f : Int)).toNat = f from by omega, show ((s.size : Int)).toNat = s.size from by omega]
  | succ d ih =>
    intro i f hi hf hno acc ha
    have hb := bt_list s i (by omega)
    have hii : ((i + 1 : Nat) : Int) = (i : Int) + 1 := by omega
    have hsplit : ((ints s).drop f).take (i + 1 - f) = ((ints s).drop f).take (i - f) ++ [(ints s)[i]'(by omega)] := by
      rw [show i + 1 - f = (i - f) + 1 from by omega, List.take_succ_eq_append_getElem (by rw [List.length_drop]; omega), List.getElem_drop]
      congr 2
      simp [show f + (i - f) = i from by omega]
    by_cases h10 : bt s (i : Int) = 10
    · obtain ⟨L, h1, h2⟩ := ih (i + 1) (i + 1) (by omega) (by omega) (by simp) (acc ++ [s.extract f i]) (by simp; omega)
      rw [hii] at h2
      refine ⟨s.extract f i :: L, ?_, ?_⟩
      · have e : (ints s).drop f = ((ints s).drop f).take (i - f) ++ 10 :: (ints s).drop (i + 1) := by
          have e1 := (List.take_append_drop (i + 1 - f) ((ints s).drop f)).symm
          rw [hsplit, List.drop_drop, show f + (i + 1 - f) = i + 1 from by omega, ← hb, h10, List.append_assoc] at e1
          exact e1
        rw [e, linesL_cut _ _ hno, ← h1, List.map_cons, ints_extract]
      · refine Ev.step (fun k => by rw [spec_Rows.l0, w64 (x := (i : Int) + 1) (by omega) (by omega)]) (ev_ifp (by omega) (ev_ifn (by omega) (ev_ifp (by omega) (ev_ifp (by omega) (ev_ifp h10 (ev_ifp (by omega) (ev_ifp (by omega) (ev_ifp (by omega) ?_))))))))
        rw [show ((f : Int)).toNat = f from by omega, show ((i : Int)).toNat = i from by omega]
        rw [List.append_assoc] at h2
        exact h2
    · obtain ⟨L, h1, h2⟩ := ih (i + 1) f (by omega) (by omega) (by
        rw [hsplit]
        intro hm
        rcases List.mem_append.1 hm with hm | hm
        · exact hno hm
        · simp at hm; rw [← hb] at hm; exact h10 hm.symm) acc (by omega)
      rw [hii] at h2
      exact ⟨L, h1, Ev.step (fun k => by rw [spec_Rows.l0, w64 (x := (i : Int) + 1) (by omega) (by omega)]) (ev_ifp (by omega) (ev_ifn (by omega) (ev_ifp (by omega) (ev_ifp (by omega) (ev_ifn h10 h2)))))⟩
theorem rd_L (L : List ByteArray) (i : Nat) (h : i < L.length) : rdOf ByteArray.empty L (i : Int) = L[i] := by
  unfold rdOf
  rw [show ((i : Int)).toNat = i from by omega, List.getD_eq_getElem?_getD, List.getElem?_eq_getElem h]
  rfl
theorem join_at (L : List ByteArray) (i : Nat) (h : i < L.length) : joinL ((L.map ints).take (i + 1)) = joinL ((L.map ints).take i) ++ ints L[i] ++ [10] := by
  rw [List.take_succ_eq_append_getElem (by simpa using h), joinL_append]
  simp [joinL]
theorem together_tells' (L : List ByteArray) (hl : L.length ≤ 10000000) (hj : (joinL (L.map ints)).length ≤ 10000000) (h0 : 0 < L.length) : ∃ T : ByteArray, ints T ++ [10] = joinL (L.map ints) ∧ Ev (fun k => spec_Together.f k L) T := by
  suffices h : ∀ d i : Nat, i + d = L.length → ∀ x : ByteArray, (0 < i → ints x ++ [10] = joinL ((L.map ints).take i)) → (i = 0 → x = ⟨#[]⟩) →
      ∃ T : ByteArray, ints T ++ [10] = joinL (L.map ints) ∧ Ev (fun k => spec_Together.l0 k L x (i : Int)) T from h L.length 0 (by omega) ⟨#[]⟩ (fun h => by omega) (fun _ => rfl)
  intro d
  induction d with
  | zero =>
    intro i hi x hx _
    refine ⟨x, ?_, Ev.step (fun k => by rw [spec_Together.l0]) (ev_ifn (by omega) (Ev.now _))⟩
    rw [hx (by omega), List.take_of_length_le (by rw [List.length_map]; omega)]
  | succ d ih =>
    intro i hi x hx hx0
    have hil : i < L.length := by omega
    have hrd := rd_L L i hil
    have hja := join_at L i hil
    have hsz : (joinL ((L.map ints).take (i + 1))).length ≤ 10000000 := by
      have := join_mono (L.map ints) (i := i + 1) (j := (L.map ints).length) (by rw [List.length_map]; omega)
      rw [List.take_length] at this
      omega
    rw [hja] at hsz
    simp only [List.length_append, ints_length, List.length_cons, List.length_nil] at hsz
    by_cases hi0 : 0 < i
    · have e := hx hi0
      have hxl : x.size + 1 = (joinL ((L.map ints).take i)).length := by rw [← e, List.length_append, ints_length]; rfl
      have hnl : ints (⟨#[10]⟩ : ByteArray) = [10] := rfl
      have hz2 : (x ++ (⟨#[10]⟩ : ByteArray)).size = x.size + 1 := by rw [← ints_length, ints_append, List.length_append, ints_length, hnl]; rfl
      obtain ⟨T, h1, h2⟩ := ih (i + 1) (by omega) ((x ++ (⟨#[10]⟩ : ByteArray)) ++ L[i]) (fun _ => by rw [hja, ints_append, ints_append, hnl, e]) (fun hh => by omega)
      refine ⟨T, h1, Ev.step (fun k => by rw [spec_Together.l0, hrd, w64 (x := (i : Int) + 1) (by omega) (by omega), show (i : Int) + 1 = ((i + 1 : Nat) : Int) from by omega]) (ev_ifp (by omega) (ev_ifp (by omega) (ev_ifp (by omega) (ev_ifp (by omega) (ev_ifp (by rw [hz2]; omega) h2)))))⟩
    · have hi00 : i = 0 := by omega
      have e := hx0 hi00
      subst e
      have e0 : joinL ((L.map ints).take i) = [] := by rw [hi00]; rfl
      obtain ⟨T, h1, h2⟩ := ih (i + 1) (by omega) ((⟨#[]⟩ : ByteArray) ++ L[i]) (fun _ => by rw [hja, ints_append, e0]; simp [ints]) (fun hh => by omega)
      exact ⟨T, h1, Ev.step (fun k => by rw [spec_Together.l0, hrd, w64 (x := (i : Int) + 1) (by omega) (by omega), show (i : Int) + 1 = ((i + 1 : Nat) : Int) from by omega]) (ev_ifp (by omega) (ev_ifn (by omega) (ev_ifp (by omega) (ev_ifp (by show 0 + _ ≤ _; omega) h2))))⟩
theorem plain_tells (s : ByteArray) (hs : s.size ≤ 4611686018427387904) : ∃ b, Ev (fun k => laws_plain16.f k s) b ∧ (b = true → s.size ≤ 2000 ∧ ∀ x ∈ ints s, x = 10 ∨ (32 ≤ x ∧ x ≤ 126)) := by
  have hl := ints_length s
  unfold laws_plain16.f
  by_cases hz : (s.size : Int) ≤ 2000
  · have h : ∀ d i : Nat, i + d = s.size → ∃ b, Ev (fun k => spec_Plain.l0 k s (i : Int)) b ∧ (b = true → ∀ x ∈ (ints s).drop i, x = 10 ∨ (32 ≤ x ∧ x ≤ 126)) := by
      intro d
      induction d with
      | zero =>
        intro i hi
        refine ⟨true, Ev.step (fun k => by rw [spec_Plain.l0]) (ev_ifn (by omega) (Ev.now _)), fun _ => ?_⟩
        rw [List.drop_of_length_le (by omega)]; simp
      | succ d ih =>
        intro i hi
        obtain ⟨b, h1, h2⟩ := ih (i + 1) (by omega)
        rw [show ((i + 1 : Nat) : Int) = (i : Int) + 1 from by omega] at h1
        have hb := bt_list s i (by omega)
        by_cases h10 : bt s (i : Int) = 10
        · refine ⟨b, Ev.step (fun k => by rw [spec_Plain.l0, w64 (x := (i : Int) + 1) (by omega) (by omega)]) (ev_ifp (by omega) (ev_ifp (by omega) (ev_ifp h10 h1))), fun hbt x hm => ?_⟩
          rw [List.drop_eq_getElem_cons (by omega), ← hb, h10] at hm
          rcases List.mem_cons.1 hm with e | hm
          · exact .inl e
          · exact h2 hbt x hm
        · by_cases h32 : bt s (i : Int) < 32
          · exact ⟨false, Ev.step (fun k => by rw [spec_Plain.l0]) (ev_ifp (by omega) (ev_ifp (by omega) (ev_ifn h10 (ev_ifp h32 (Ev.now _))))), fun h => by cases h⟩
          · by_cases h126 : bt s (i : Int) > 126
            · exact ⟨false, Ev.step (fun k => by rw [spec_Plain.l0]) (ev_ifp (by omega) (ev_ifp (by omega) (ev_ifn h10 (ev_ifn h32 (ev_ifp h126 (Ev.now _)))))), fun h => by cases h⟩
            · refine ⟨b, Ev.step (fun k => by rw [spec_Plain.l0, w64 (x := (i : Int) + 1) (by omega) (by omega)]) (ev_ifp (by omega) (ev_ifp (by omega) (ev_ifn h10 (ev_ifn h32 (ev_ifn h126 h1))))), fun hbt x hm => ?_⟩
              rw [List.drop_eq_getElem_cons (by omega), ← hb] at hm
              rcases List.mem_cons.1 hm with e | hm
              · omega
              · exact h2 hbt x hm
    obtain ⟨b, h1, h2⟩ := h s.size 0 (by omega)
    exact ⟨b, ev_ifp hz (ev_bind h1 (Ev.now _)), fun hb => ⟨by omega, by simpa using h2 hb⟩⟩
  · exact ⟨false, ev_ifn hz (Ev.now _), fun h => by cases h⟩
theorem blanks_tells (n : Nat) (hn : n ≤ 1000) : ∃ B : ByteArray, ints B = List.replicate n 32 ∧ Ev (fun k => spec_Blanks.f k (n : Int)) B := by
  refine ⟨strOfNums (List.replicate n 32), nums_ints _ (by intro x hx; obtain ⟨_, rfl⟩ := List.mem_replicate.1 hx; omega), ?_⟩
  have hm : mx 0 (n : Int) = n := by unfold mx; split <;> omega
  unfold spec_Blanks.f
  rw [hm, Int.toNat_natCast]
  refine ev_ifp (by omega) (ev_ifp (by omega) ?_)
  have h : ∀ d i : Nat, i + d = n → Ev (fun k => spec_Blanks.l0 k (partL (List.replicate n 32) i n) (i : Int)) (strOfNums (List.replicate n 32)) := by
    intro d
    induction d with
    | zero =>
      intro i hi
      obtain rfl : i = n := by omega
      rw [partL_all _ _ (by simp)]
      exact Ev.step (fun k => by rw [spec_Blanks.l0]) (ev_ifn (by simp) (Ev.now _))
    | succ d ih =>
      intro i hi
      have hl : (partL (List.replicate n 32) i n).length = n := partL_length _ _ _ (by simp; omega) (by omega)
      have hs := partL_set (List.replicate n (32 : Int)) i n (by simp; omega) (by omega)
      simp only [List.getElem_replicate] at hs
      refine Ev.step (fun k => by rw [spec_Blanks.l0, w64 (x := (i : Int) + 1) (by omega) (by omega)]) (ev_ifp (by omega) (ev_ifp (by omega) ?_))
      rw [Int.toNat_natCast, hs]
      exact ih (i + 1) (by omega)
  have := h n 0 (by omega)
  rw [partL_zero] at this
  exact this
/-- The rows, set in. -/
def inRows (B : ByteArray) : List ByteArray → List ByteArray
  | [] => []
  | [x] => [if x.size = 0 then x else B ++ x]
  | x :: y :: t => (B ++ x) :: inRows B (y :: t)
theorem empty_iff (x : ByteArray) : x.toList = ([] : List UInt8) ↔ x.size = 0 := by
  rw [ByteArray.toList_eq, ← dlen]
  exact List.eq_nil_iff_length_eq_zero
theorem indent_loop (n : Nat) (B : ByteArray) (hB : Ev (fun k => spec_Blanks.f k (n : Int)) B) (hBs : B.size ≤ 1000) (T : ByteArray) : ∀ (rest pre : List ByteArray), (∀ x ∈ rest, x.size ≤ 100000) → pre.length + rest.length ≤ 100000 →
    Ev (fun k => spec_Together.f k (pre ++ inRows B rest)) T → Ev (fun k => spec_Indented.l0 k (n : Int) (pre ++ rest) (pre.length : Int)) T
  | [], pre, hz, hl, h => by
    simp only [inRows, List.append_nil] at h ⊢
    exact Ev.step (fun k => by rw [spec_Indented.l0]) (ev_ifn (by omega) (ev_bind h (Ev.now _)))
  | [x], pre, hz, hl, h => by
    have hxs := hz x (by simp)
    have hrd : rdOf ByteArray.empty (pre ++ [x]) (pre.length : Int) = x := by unfold rdOf; simp
    have e64 : wrap64 ((pre.length : Int) + 1) = (((pre ++ [x]).length : Nat) : Int) := by rw [w64 (by omega) (by omega)]; simp
    simp only [List.length_singleton] at hl
    refine Ev.step (fun k => by rw [spec_Indented.l0, hrd, e64]) (ev_ifp (by simp; omega) (ev_ifn (by omega) (ev_ifp (by omega) ?_)))
    by_cases h0 : x.size = 0
    · simp only [inRows, if_pos h0] at h
      refine ev_ifp ((empty_iff x).2 h0) ?_
      have := indent_loop n B hB hBs T [] (pre ++ [x]) (by simp) (by simp; omega) (by simpa [inRows] using h)
      simpa using this
    · simp only [inRows, if_neg h0] at h
      refine ev_ifn (fun e => h0 ((empty_iff x).1 e)) (ev_bind hB (ev_ifp (by omega) ?_))
      have hset : (pre ++ [x]).set ((pre.length : Int)).toNat (B ++ x) = pre ++ [B ++ x] := by simp
      rw [hset, show (((pre ++ [x]).length : Nat) : Int) = (((pre ++ [B ++ x]).length : Nat) : Int) by simp]
      have := indent_loop n B hB hBs T [] (pre ++ [B ++ x]) (by simp) (by simp; omega) (by simpa [inRows] using h)
      simpa using this
  | x :: y :: t, pre, hz, hl, h => by
    have hxs := hz x (by simp)
    have hrd : rdOf ByteArray.empty (pre ++ x :: y :: t) (pre.length : Int) = x := by unfold rdOf; simp
    simp only [List.length_cons] at hl
    have e64 : wrap64 ((pre.length : Int) + 1) = ((pre.length + 1 : Nat) : Int) := by rw [w64 (by omega) (by omega)]; omega
    refine Ev.step (fun k => by rw [spec_Indented.l0, hrd, e64]) ?_
    refine ev_ifp (by simp; omega) ?_
    refine ev_ifp (by simp; omega) ?_
    refine ev_bind hB ?_
    refine ev_ifp (by omega) ?_
    refine ev_ifp (by omega) ?_
    have hset : (pre ++ x :: y :: t).set ((pre.length : Int)).toNat (B ++ x) = (pre ++ [B ++ x]) ++ y :: t := by simp
    rw [hset, show ((pre.length + 1 : Nat) : Int) = (((pre ++ [B ++ x]).length : Nat) : Int) by simp]
    exact indent_loop n B hB hBs T (y :: t) (pre ++ [B ++ x]) (fun z hz' => hz z (by simp at hz' ⊢; exact .inr hz')) (by simp; omega) (by simpa [inRows] using h)
/-- The same on numbers. -/
def stepI (n : Nat) (p : List Int × Bool) (x : Int) : List Int × Bool := (p.1 ++ (if p.2 then [] else List.replicate n 32) ++ [x], decide (x ≠ 10))
def num (b : UInt8) : Int := (b.toNat : Int)
theorem stepI_of (n : Nat) : ∀ (u : List UInt8) (p : List UInt8 × Bool), (u.map num).foldl (stepI n) (p.1.map num, p.2) = ((u.foldl (inStep n) p).1.map num, (u.foldl (inStep n) p).2)
  | [], p => rfl
  | x :: u, p => by
    rw [List.map_cons, List.foldl_cons, List.foldl_cons, ← stepI_of n u (inStep n p x)]
    congr 1
    unfold stepI inStep
    have h10 : decide (num x ≠ 10) = decide (x ≠ 10) := by
      rw [decide_eq_decide]
      unfold num
      constructor
      · intro h e; subst e; exact h rfl
      · intro h e; exact h (UInt8.toNat_inj.1 (by have : (10 : UInt8).toNat = 10 := rfl; omega))
    rw [h10]
    cases p.2 <;> simp [num]
def inRowsI (n : Nat) : List (List Int) → List (List Int)
  | [] => []
  | [x] => [if x.length = 0 then x else List.replicate n 32 ++ x]
  | x :: y :: t => (List.replicate n 32 ++ x) :: inRowsI n (y :: t)
theorem row_on (n : Nat) : ∀ (l : List Int) (out : List Int), 10 ∉ l → l.foldl (stepI n) (out, true) = (out ++ l, true)
  | [], out, h => by simp
  | x :: l, out, h => by
    have h1 : x ≠ 10 := fun e => h (by simp [e])
    rw [List.foldl_cons, show stepI n (out, true) x = (out ++ [x], true) by simp [stepI, h1], row_on n l (out ++ [x]) (fun hm => h (by simp [hm]))]
    simp
theorem row_off (n : Nat) (l : List Int) (out : List Int) (h : 10 ∉ l) : l.foldl (stepI n) (out, false) = if l.length = 0 then (out, false) else (out ++ List.replicate n 32 ++ l, true) := by
  cases l with
  | nil => rfl
  | cons x l =>
    have h1 : x ≠ 10 := fun e => h (by simp [e])
    rw [List.foldl_cons, show stepI n (out, false) x = (out ++ List.replicate n 32 ++ [x], true) by simp [stepI, h1], row_on n l _ (fun hm => h (by simp [hm]))]
    simp
theorem in_all (n : Nat) : ∀ (l : List Int), ∀ out, (l.foldl (stepI n) (out, false)).1 ++ [10] = out ++ joinL (inRowsI n (linesL l)) := by
  refine lines_ind ?_ ?_
  · intro l h out
    rw [linesL_one l h, row_off n l out h]
    by_cases h0 : l.length = 0
    · have : l = [] := List.eq_nil_of_length_eq_zero h0
      subst this
      simp [inRowsI, joinL]
    · rw [if_neg h0]
      simp [inRowsI, joinL, h0]
  · intro a b ha ih out
    rw [linesL_cut b a ha, List.foldl_append, List.foldl_cons, row_off n a out ha]
    have hne := linesL_ne b
    obtain ⟨y, t, hyt⟩ := List.exists_cons_of_ne_nil hne
    have hstep : stepI n (if a.length = 0 then (out, false) else (out ++ List.replicate n 32 ++ a, true)) 10 = (out ++ List.replicate n 32 ++ a ++ [10], false) := by
      by_cases h0 : a.length = 0
      · have : a = [] := List.eq_nil_of_length_eq_zero h0
        subst this
        simp [stepI]
      · rw [if_neg h0]
        simp [stepI]
    rw [hstep, ih, hyt]
    simp [inRowsI, joinL]
theorem inRows_ints (n : Nat) (B : ByteArray) (hB : ints B = List.replicate n 32) : ∀ L : List ByteArray, (inRows B L).map ints = inRowsI n (L.map ints)
  | [] => rfl
  | [x] => by
    have hl := ints_length x
    simp only [inRows, inRowsI, List.map_cons, List.map_nil, hl]
    by_cases h0 : x.size = 0
    · rw [if_pos h0, if_pos h0]
    · rw [if_neg h0, if_neg h0, ints_append, hB]
  | x :: y :: t => by
    have := inRows_ints n B hB (y :: t)
    simp only [inRows, inRowsI, List.map_cons] at this ⊢
    rw [ints_append, hB, this]
theorem inRowsI_len (n : Nat) (hn : n ≤ 1000) : ∀ L : List (List Int), (joinL (inRowsI n L)).length ≤ (joinL L).length + 1000 * L.length
  | [] => by simp [inRowsI, joinL]
  | [x] => by
    simp only [inRowsI, joinL_cons, List.length_append, List.length_cons]
    split
    · omega
    · simp; omega
  | x :: y :: t => by
    have := inRowsI_len n hn (y :: t)
    simp only [inRowsI, joinL_cons, List.length_append, List.length_cons, List.length_replicate] at this ⊢
    omega
theorem inRows_length (B : ByteArray) : ∀ L : List ByteArray, (inRows B L).length = L.length
  | [] => rfl
  | [x] => rfl
  | x :: y :: t => by simp only [inRows, List.length_cons]; rw [inRows_length B (y :: t)]; rfl
theorem mem_join : ∀ (L : List (List Int)) (r : List Int), r ∈ L → r.length ≤ (joinL L).length
  | [], r, h => by simp at h
  | a :: L, r, h => by
    rw [joinL_cons, List.length_append, List.length_cons]
    rcases List.mem_cons.1 h with rfl | h
    · omega
    · have := mem_join L r h; omega
theorem lines_len : ∀ L : List (List Int), L.length ≤ (joinL L).length
  | [] => by simp
  | a :: L => by
    have := lines_len L
    rw [joinL_cons, List.length_append, List.length_cons, List.length_cons]
    omega
theorem indented_tells (s : ByteArray) (n : Nat) (hn : n ≤ 100) (hs : s.size ≤ 2000) : Ev (fun k => spec_Indented.f k s (n : Int)) (indented n s) := by
  obtain ⟨L, hL, hE⟩ := rows_tells s (by omega)
  obtain ⟨B, hB, hBE⟩ := blanks_tells n (by omega)
  have hjl : (joinL (L.map ints)).length = s.size + 1 := by rw [hL, linesL_join, List.length_append, ints_length]; rfl
  have hll := lines_len (L.map ints)
  rw [List.length_map] at hll
  have hB1 : B.size = n := by rw [← ints_length, hB, List.length_replicate]
  have h0 : 0 < L.length := by
    have := linesL_ne (ints s)
    rw [← hL] at this
    cases L with
    | nil => simp at this
    | cons a b => simp
  have hri := inRows_ints n B hB L
  have hrl := inRowsI_len n (by omega) (L.map ints)
  rw [List.length_map] at hrl
  have hbnd : 1000 * L.length ≤ 1000 * 2001 := Nat.mul_le_mul_left _ (by omega)
  obtain ⟨T, hT, hTE⟩ := together_tells' (inRows B L) (by rw [inRows_length]; omega) (by rw [hri]; omega) (by rw [inRows_length]; exact h0)
  have hTI : T = indented n s := by
    apply ints_inj
    have h1 := in_all n (ints s) []
    rw [List.nil_append] at h1
    have h2 := stepI_of n s.data.toList ([], false)
    have h3 : (ints s).foldl (stepI n) ([], false) = ((inF n s.data.toList).1.map num, (inF n s.data.toList).2) := h2
    rw [h3] at h1
    have h4 : ints (indented n s) = (inF n s.data.toList).1.map num := by simp [ints, indented, num]
    have h5 : ints T ++ [10] = ints (indented n s) ++ [10] := by rw [hT, hri, hL, h4, h1]
    exact List.append_cancel_right h5
  rw [hTI] at hTE
  unfold spec_Indented.f
  refine ev_bind hE ?_
  have := indent_loop n B hBE (by omega) (indented n s) L [] (fun x hx => by
    have := mem_join (L.map ints) (ints x) (List.mem_map.2 ⟨x, hx, rfl⟩)
    rw [ints_length] at this
    omega) (by simp; omega) (by simpa using hTE)
  simpa using this
theorem FnIndented : laws_FnIndented.Pure := by
  intro s n hs hn
  suffices h : Ev (fun k => laws_FnIndented.f k s n) true by
    obtain ⟨k, hk⟩ := h
    exact ⟨k, hk k (Nat.le_refl _)⟩
  have hn0 : 0 ≤ n := by
    simp [Lit.wf, IntKind.min, IntKind.max, IntKind.signed] at hn
    omega
  have done : Ev (fun k => laws_FnIndented.j0 k s n true) true := Ev.step (fun k => by rw [laws_FnIndented.j0]) (ev_ifp rfl (Ev.now _))
  unfold laws_FnIndented.f
  by_cases hz : (s.size : Int) > 2147483647
  · exact ev_ifp hz (Ev.now _)
  refine ev_ifn hz ?_
  obtain ⟨b, hb, hq⟩ := plain_tells s (by omega)
  refine ev_bind hb ?_
  cases b with
  | false => exact ev_ifn (by simp) done
  | true =>
    refine ev_ifp rfl ?_
    obtain ⟨h1, h2⟩ := hq rfl
    by_cases h100 : n > 100
    · rw [decide_eq_true h100]; exact done
    · rw [decide_eq_false h100]
      obtain ⟨m, rfl⟩ := Int.eq_ofNat_of_zero_le hn0
      have hw : IntKind.u64.wrap (m : Int) = m := by unfold IntKind.wrap; simp [IntKind.bits, IntKind.signed] <;> omega
      have hf : impl_Indented.f s (IntKind.u64.wrap (m : Int)) = some (indented m s) := by
        have hcond : s.size ≤ 500000 ∧ (∀ x ∈ s.data.toList, x.toNat < 128 ∧ x.toNat ≠ 27) ∧ (0 : Int) ≤ (m : Int) ∧ (m : Int) ≤ 1000 := by
          refine ⟨by omega, fun x hx => ?_, by omega, by omega⟩
          have := h2 (x.toNat : Int) (List.mem_map.2 ⟨x, hx, rfl⟩)
          omega
        unfold impl_Indented.f
        rw [hw, if_pos hcond, Int.toNat_natCast]
      have hf2 : impl_Indented.f ⟨#[97]⟩ 1 = some ⟨#[32, 97]⟩ := by
        unfold impl_Indented.f
        rw [if_pos (by decide)]
        first | done | rfl
      refine Ev.step (fun k => by rw [laws_FnIndented.j0, hf, w64 (x := (m : Int)) (by omega) (by omega), hf2]) (ev_ifn (by simp) ?_)
      simp only [Option.bind_some]
      refine ev_bind (indented_tells s m (by omega) h1) (ev_ifp rfl (ev_some ?_))
      simp [ByteArray.toList_eq]
end Go.Proofs.YtanadaamipfmkaaDoor.Pure
